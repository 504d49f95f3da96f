import PyProof.Rows.All
import Wide.All
import OpenK.AllK
import Wide.FinOn
import Lean
import PySem.Challenge.RW_wb0095_01
set_option Elab.async false
set_option linter.unusedVariables false
set_option maxRecDepth 100000

namespace Mine
open PySem PySem.W

noncomputable abbrev pw : Program := PySem.Challenge.pw_wb0095_01
noncomputable def top (i : Nat) : Stmt := (pw.main.body.drop i).head?.getD (.Pass ⟨0, 0, 0, 0⟩)
noncomputable def clsBody : Stmt → List Stmt
  | .ClassDef _ _ _ b _ _ _ _ _ _ _ => b
  | _ => []
noncomputable def inCls (i j : Nat) : Stmt := ((clsBody (top i)).drop j).head?.getD (.Pass ⟨0, 0, 0, 0⟩)
noncomputable def fArgs : Stmt → Arguments
  | .FunctionDef _ a _ _ _ _ _ _ _ _ => a
  | _ => { posonlyargs := [], args := [], vararg := none, kwonlyargs := [], kw_defaults := [], kwarg := none, defaults := [] }
noncomputable def fBody : Stmt → List Stmt
  | .FunctionDef _ _ b _ _ _ _ _ _ _ => b
  | _ => []
noncomputable def fScope : Stmt → Scope
  | .FunctionDef _ _ _ _ _ _ s _ _ _ => s
  | _ => { kind := .module, names := [], isGenerator := false, isCoroutine := false, more := [] }

/-- the entries of the big table, out of its display -/
noncomputable def b3tok (n : Nat) : Nat := if n < 646 then 377 + 3 * n else 2315 + 2 * (n - 646)
noncomputable def b3go : Nat → List (Option Expr) → List Expr → List DictEntry
  | n, some (.Constant (.int k) _ _) :: ks, .Constant (.str v) _ _ :: vs => ⟨k, .int k (b3tok n), .str v (b3tok n + 1)⟩ :: b3go (n + 1) ks vs
  | _, _, _ => []
noncomputable def b3ents : List DictEntry := match top 8 with
  | .Assign _ (.Dict ks vs _) _ => b3go 0 ks vs
  | _ => []

noncomputable def o3 (P : Params) : Obj := ⟨(.type "dict"), none, .dict [⟨PyData.keyHash P (Str.ofString "__name__"), (.str (Str.ofString "__name__") 165), (.str (Str.ofString "law_wb0095_01") 2373)⟩, ⟨PyData.keyHash P (Str.ofString "__doc__"), (.str (Str.ofString "__doc__") 166), .none⟩, ⟨PyData.keyHash P (Str.ofString "__package__"), (.str (Str.ofString "__package__") 167), .none⟩, ⟨PyData.keyHash P (Str.ofString "__loader__"), (.str (Str.ofString "__loader__") 168), (.builtin "__main__.__loader__#opaque")⟩, ⟨PyData.keyHash P (Str.ofString "__spec__"), (.str (Str.ofString "__spec__") 169), .none⟩, ⟨PyData.keyHash P (Str.ofString "__annotations__"), (.str (Str.ofString "__annotations__") 170), (.ref 6)⟩, ⟨PyData.keyHash P (Str.ofString "__builtins__"), (.str (Str.ofString "__builtins__") 171), (.ref 4)⟩, ⟨PyData.keyHash P (Str.ofString "__file__"), (.str (Str.ofString "__file__") 173), (.str (Str.ofString "/claim/cut.py") 172)⟩, ⟨PyData.keyHash P (Str.ofString "__cached__"), (.str (Str.ofString "__cached__") 174), .none⟩, ⟨PyData.keyHash P (Str.ofString "_wall"), (.str (Str.ofString "_wall") 193), (.ref 21)⟩, ⟨PyData.keyHash P (Str.ofString "Whitespace"), (.str (Str.ofString "Whitespace") 295), (.ref 83)⟩, ⟨PyData.keyHash P (Str.ofString "Int2AP"), (.str (Str.ofString "Int2AP") 307), (.ref 94)⟩, ⟨PyData.keyHash P (Str.ofString "b1_set"), (.str (Str.ofString "b1_set") 369), (.ref 102)⟩, ⟨PyData.keyHash P (Str.ofString "in_table_b1"), (.str (Str.ofString "in_table_b1") 376), (.ref 112)⟩, ⟨PyData.keyHash P (Str.ofString "b3_exceptions"), (.str (Str.ofString "b3_exceptions") 2327), (.ref 113)⟩, ⟨PyData.keyHash P (Str.ofString "map_table_b3"), (.str (Str.ofString "map_table_b3") 2335), (.ref 158)⟩, ⟨PyData.keyHash P (Str.ofString "_raise_serialization_error"), (.str (Str.ofString "_raise_serialization_error") 2344), (.ref 165)⟩, ⟨PyData.keyHash P (Str.ofString "_escape_cdata"), (.str (Str.ofString "_escape_cdata") 2351), (.ref 172)⟩, ⟨PyData.keyHash P (Str.ofString "_escape_attrib"), (.str (Str.ofString "_escape_attrib") 2358), (.ref 179)⟩, ⟨PyData.keyHash P (Str.ofString "_escape_attrib_html"), (.str (Str.ofString "_escape_attrib_html") 2365), (.ref 186)⟩, ⟨PyData.keyHash P (Str.ofString "_escape_cdata_c14n"), (.str (Str.ofString "_escape_cdata_c14n") 2372), (.ref 193)⟩, ⟨PyData.keyHash P (Str.ofString "_law_taken"), (.str (Str.ofString "_law_taken") 2383), (.ref 200)⟩, ⟨PyData.keyHash P (Str.ofString "_law_drawn"), (.str (Str.ofString "_law_drawn") 2389), (.ref 205)⟩, ⟨PyData.keyHash P (Str.ofString "_law_text"), (.str (Str.ofString "_law_text") 2395), (.ref 210)⟩, ⟨PyData.keyHash P (Str.ofString "_law_escaped"), (.str (Str.ofString "_law_escaped") 2403), (.ref 217)⟩, ⟨PyData.keyHash P (Str.ofString "_law_line"), (.str (Str.ofString "_law_line") 2409), (.ref 222)⟩, ⟨PyData.keyHash P (Str.ofString "_law_cases"), (.str (Str.ofString "_law_cases") 2420), (.ref 229)⟩, ⟨PyData.keyHash P (Str.ofString "_law_judged"), (.str (Str.ofString "_law_judged") 2426), (.ref 234)⟩, ⟨PyData.keyHash P (Str.ofString "_law_plain"), (.str (Str.ofString "_law_plain") 2432), (.ref 239)⟩, ⟨PyData.keyHash P (Str.ofString "_law_letters"), (.str (Str.ofString "_law_letters") 2438), (.ref 244)⟩, ⟨PyData.keyHash P (Str.ofString "law"), (.str (Str.ofString "law") 2444), (.ref 249)⟩].toArray 31, [].toArray⟩
noncomputable def o11 (P : Params) : Obj := ⟨(.type "tuple"), none, .seq [].toArray 0, [].toArray⟩
noncomputable def o12 (P : Params) : Obj := ⟨.none, none, .fields [(.int 1 0), (.int 0 0), (.ref 20), (.int 5 0), (.int 0 0), (.ref 27), (.int 62 0), (.int 0 0), (.ref 93), (.int 72 0), (.int 0 0), (.ref 111), (.int 75 0), (.int 0 0), (.ref 157), (.int 81 0), (.int 0 0), (.ref 164), (.int 83 0), (.int 0 0), (.ref 171), (.int 94 0), (.int 0 0), (.ref 178), (.int 113 0), (.int 0 0), (.ref 185), (.int 124 0), (.int 0 0), (.ref 192), (.int 138 0), (.int 0 0), (.ref 199), (.int 145 0), (.int 0 0), (.ref 204), (.int 163 0), (.int 0 0), (.ref 209), (.int 169 0), (.int 0 0), (.ref 216), (.int 173 0), (.int 0 0), (.ref 221), (.int 180 0), (.int 0 0), (.ref 228), (.int 189 0), (.int 0 0), (.ref 233), (.int 205 0), (.int 0 0), (.ref 238), (.int 210 0), (.int 0 0), (.ref 243), (.int 213 0), (.int 0 0), (.ref 248)].toArray, [].toArray⟩
noncomputable def o13 (P : Params) : Obj := ⟨(.type "code"), none, .fields [(.str (Str.ofString "<module>") 182), (.str (Str.ofString "<module>") 183), (.str (Str.ofString "/claim/cut.py") 184), (.int 1 0), (.int 0 0), (.int 0 0), (.int 0 0), (.int 0 0), (.ref 11), (.bool false), (.int 181 0), (.ref 12), .none, .none, .none, .none, (.int 185 0), (.int 1 0), (.str (Str.ofString "/claim/cut.py") 186)].toArray, [].toArray⟩
noncomputable def o14 (P : Params) : Obj := ⟨(.type "frame"), none, .plain, [(some (.ref 13)), (some (.ref 3)), (some (.ref 3)), none, (some (.str (Str.ofString "__main__") 164)), none, (some (.ref 0))].toArray⟩
noncomputable def o15 (P : Params) : Obj := ⟨(.type "tuple"), none, .seq [].toArray 0, [].toArray⟩
noncomputable def o16 (P : Params) : Obj := ⟨.none, none, .fields [].toArray, [].toArray⟩
noncomputable def o17 (P : Params) : Obj := ⟨(.type "tuple"), none, .seq [(.str (Str.ofString "k") 190)].toArray 0, [].toArray⟩
noncomputable def o18 (P : Params) : Obj := ⟨(.type "tuple"), none, .seq [].toArray 0, [].toArray⟩
noncomputable def o19 (P : Params) : Obj := ⟨.none, none, .func { name := (Str.ofString "_wall"), qualname := (Str.ofString "_wall"), params := fArgs (top 0), body := .stmts (fBody (top 0)), scope := fScope (top 0), globals := 0, closure := [], defaults := .none, kwdefaults := .none, doc := .none, pyModule := .none, annotations := none, code := .none, closureTuple := .none, builtins := 0 }, [].toArray⟩
noncomputable def o20 (P : Params) : Obj := ⟨(.type "code"), none, .fields [(.str (Str.ofString "_wall") 187), (.str (Str.ofString "_wall") 188), (.str (Str.ofString "/claim/cut.py") 189), (.int 1 0), (.int 1 0), (.int 0 0), (.int 0 0), (.int 3 0), (.ref 15), (.bool true), (.int 181 0), (.ref 16), .none, (.ref 17), (.ref 18), (.ref 19), (.int 191 0), (.int 1 0), (.str (Str.ofString "/claim/cut.py") 192)].toArray, [].toArray⟩
noncomputable def o21 (P : Params) : Obj := ⟨(.type "function"), none, .func { name := (Str.ofString "_wall"), qualname := (Str.ofString "_wall"), params := fArgs (top 0), body := .stmts (fBody (top 0)), scope := fScope (top 0), globals := 3, closure := [], defaults := .none, kwdefaults := .none, doc := .none, pyModule := (.str (Str.ofString "__main__") 164), annotations := none, code := (.ref 20), closureTuple := .none, builtins := 0 }, [].toArray⟩
noncomputable def o22 (P : Params) : Obj := ⟨(.type "tuple"), none, .seq [].toArray 0, [].toArray⟩
noncomputable def o23 (P : Params) : Obj := ⟨(.type "builtin_function_or_method"), none, .fields [(.builtin "type.__prepare__"), (.type "type")].toArray, [].toArray⟩
noncomputable def o24 (P : Params) : Obj := ⟨(.type "dict"), none, .dict [⟨PyData.keyHash P (Str.ofString "__module__"), (.str (Str.ofString "__module__") 203), (.str (Str.ofString "cpy313.tabnanny") 194)⟩, ⟨PyData.keyHash P (Str.ofString "__qualname__"), (.str (Str.ofString "__qualname__") 205), (.str (Str.ofString "Whitespace") 204)⟩, ⟨PyData.keyHash P (Str.ofString "__firstlineno__"), (.str (Str.ofString "__firstlineno__") 207), (.int 5 206)⟩, ⟨PyData.keyHash P (Str.ofString "S"), (.str (Str.ofString "S") 211), (.str (Str.ofString " ") 209)⟩, ⟨PyData.keyHash P (Str.ofString "T"), (.str (Str.ofString "T") 212), (.str (Str.ofString "\t") 210)⟩, ⟨PyData.keyHash P (Str.ofString "__init__"), (.str (Str.ofString "__init__") 227), (.ref 38)⟩, ⟨PyData.keyHash P (Str.ofString "longest_run_of_spaces"), (.str (Str.ofString "longest_run_of_spaces") 236), (.ref 45)⟩, ⟨PyData.keyHash P (Str.ofString "indent_level"), (.str (Str.ofString "indent_level") 248), (.ref 52)⟩, ⟨PyData.keyHash P (Str.ofString "equal"), (.str (Str.ofString "equal") 256), (.ref 59)⟩, ⟨PyData.keyHash P (Str.ofString "not_equal_witness"), (.str (Str.ofString "not_equal_witness") 264), (.ref 66)⟩, ⟨PyData.keyHash P (Str.ofString "less"), (.str (Str.ofString "less") 274), (.ref 73)⟩, ⟨PyData.keyHash P (Str.ofString "not_less_witness"), (.str (Str.ofString "not_less_witness") 282), (.ref 80)⟩, ⟨PyData.keyHash P (Str.ofString "__static_attributes__"), (.str (Str.ofString "__static_attributes__") 288), (.ref 81)⟩].toArray 13, [].toArray⟩
noncomputable def o25 (P : Params) : Obj := ⟨(.type "tuple"), none, .seq [].toArray 0, [].toArray⟩
noncomputable def o26 (P : Params) : Obj := ⟨.none, none, .fields [(.int 8 0), (.int 4 0), (.ref 37), (.int 31 0), (.int 4 0), (.ref 44), (.int 35 0), (.int 4 0), (.ref 51), (.int 42 0), (.int 4 0), (.ref 58), (.int 45 0), (.int 4 0), (.ref 65), (.int 48 0), (.int 4 0), (.ref 72), (.int 59 0), (.int 4 0), (.ref 79)].toArray, [].toArray⟩
noncomputable def o27 (P : Params) : Obj := ⟨(.type "code"), none, .fields [(.str (Str.ofString "Whitespace") 198), (.str (Str.ofString "Whitespace") 199), (.str (Str.ofString "/claim/cut.py") 200), (.int 5 0), (.int 0 0), (.int 0 0), (.int 0 0), (.int 0 0), (.ref 25), (.bool false), (.int 181 0), (.ref 26), .none, .none, .none, .none, (.int 201 0), (.int 5 0), (.str (Str.ofString "/claim/cut.py") 202)].toArray, [].toArray⟩
noncomputable def o28 (P : Params) : Obj := ⟨(.type "frame"), none, .plain, [(some (.ref 27)), (some (.ref 3)), (some (.ref 24)), none, (some (.str (Str.ofString "cpy313.tabnanny") 194)), none, (some (.ref 0))].toArray⟩
noncomputable def o29 (P : Params) : Obj := ⟨(.type "str_ascii_iterator"), none, .fields [.none, (.int 2 0)].toArray, [].toArray⟩
noncomputable def o30 (P : Params) : Obj := ⟨(.type "tuple"), none, .seq [].toArray 0, [].toArray⟩
noncomputable def o31 (P : Params) : Obj := ⟨(.type "StopIteration"), none, .fields [(.ref 30), .none, .none, .none, (.bool false), .none].toArray, [].toArray⟩
noncomputable def o32 (P : Params) : Obj := ⟨(.type "tuple"), none, .seq [].toArray 0, [].toArray⟩
noncomputable def o33 (P : Params) : Obj := ⟨.none, none, .fields [].toArray, [].toArray⟩
noncomputable def o34 (P : Params) : Obj := ⟨(.type "tuple"), none, .seq [(.str (Str.ofString "self") 216), (.str (Str.ofString "ws") 217), (.str (Str.ofString "S") 218), (.str (Str.ofString "T") 219), (.str (Str.ofString "count") 220), (.str (Str.ofString "b") 221), (.str (Str.ofString "n") 222), (.str (Str.ofString "nt") 223), (.str (Str.ofString "ch") 224)].toArray 0, [].toArray⟩
noncomputable def o35 (P : Params) : Obj := ⟨(.type "tuple"), none, .seq [].toArray 0, [].toArray⟩
noncomputable def o36 (P : Params) : Obj := ⟨.none, none, .func { name := (Str.ofString "__init__"), qualname := (Str.ofString "Whitespace.__init__"), params := fArgs (inCls 2 1), body := .stmts (fBody (inCls 2 1)), scope := fScope (inCls 2 1), globals := 0, closure := [], defaults := .none, kwdefaults := .none, doc := .none, pyModule := .none, annotations := none, code := .none, closureTuple := .none, builtins := 0 }, [].toArray⟩
noncomputable def o37 (P : Params) : Obj := ⟨(.type "code"), none, .fields [(.str (Str.ofString "__init__") 213), (.str (Str.ofString "Whitespace.__init__") 214), (.str (Str.ofString "/claim/cut.py") 215), (.int 8 0), (.int 2 0), (.int 0 0), (.int 0 0), (.int 3 0), (.ref 32), (.bool true), (.int 181 0), (.ref 33), .none, (.ref 34), (.ref 35), (.ref 36), (.int 225 0), (.int 8 0), (.str (Str.ofString "/claim/cut.py") 226)].toArray, [].toArray⟩
noncomputable def o38 (P : Params) : Obj := ⟨(.type "function"), none, .func { name := (Str.ofString "__init__"), qualname := (Str.ofString "Whitespace.__init__"), params := fArgs (inCls 2 1), body := .stmts (fBody (inCls 2 1)), scope := fScope (inCls 2 1), globals := 3, closure := [], defaults := .none, kwdefaults := .none, doc := .none, pyModule := (.str (Str.ofString "cpy313.tabnanny") 194), annotations := none, code := (.ref 37), closureTuple := .none, builtins := 0 }, [].toArray⟩
noncomputable def o39 (P : Params) : Obj := ⟨(.type "tuple"), none, .seq [].toArray 0, [].toArray⟩
noncomputable def o40 (P : Params) : Obj := ⟨.none, none, .fields [].toArray, [].toArray⟩
noncomputable def o41 (P : Params) : Obj := ⟨(.type "tuple"), none, .seq [(.str (Str.ofString "self") 231), (.str (Str.ofString "count") 232), (.str (Str.ofString "trailing") 233)].toArray 0, [].toArray⟩
noncomputable def o42 (P : Params) : Obj := ⟨(.type "tuple"), none, .seq [].toArray 0, [].toArray⟩
noncomputable def o43 (P : Params) : Obj := ⟨.none, none, .func { name := (Str.ofString "longest_run_of_spaces"), qualname := (Str.ofString "Whitespace.longest_run_of_spaces"), params := fArgs (inCls 2 2), body := .stmts (fBody (inCls 2 2)), scope := fScope (inCls 2 2), globals := 0, closure := [], defaults := .none, kwdefaults := .none, doc := .none, pyModule := .none, annotations := none, code := .none, closureTuple := .none, builtins := 0 }, [].toArray⟩
noncomputable def o44 (P : Params) : Obj := ⟨(.type "code"), none, .fields [(.str (Str.ofString "longest_run_of_spaces") 228), (.str (Str.ofString "Whitespace.longest_run_of_spaces") 229), (.str (Str.ofString "/claim/cut.py") 230), (.int 31 0), (.int 1 0), (.int 0 0), (.int 0 0), (.int 3 0), (.ref 39), (.bool true), (.int 181 0), (.ref 40), .none, (.ref 41), (.ref 42), (.ref 43), (.int 234 0), (.int 31 0), (.str (Str.ofString "/claim/cut.py") 235)].toArray, [].toArray⟩
noncomputable def o45 (P : Params) : Obj := ⟨(.type "function"), none, .func { name := (Str.ofString "longest_run_of_spaces"), qualname := (Str.ofString "Whitespace.longest_run_of_spaces"), params := fArgs (inCls 2 2), body := .stmts (fBody (inCls 2 2)), scope := fScope (inCls 2 2), globals := 3, closure := [], defaults := .none, kwdefaults := .none, doc := .none, pyModule := (.str (Str.ofString "cpy313.tabnanny") 194), annotations := none, code := (.ref 44), closureTuple := .none, builtins := 0 }, [].toArray⟩
noncomputable def o46 (P : Params) : Obj := ⟨(.type "tuple"), none, .seq [].toArray 0, [].toArray⟩
noncomputable def o47 (P : Params) : Obj := ⟨.none, none, .fields [].toArray, [].toArray⟩
noncomputable def o48 (P : Params) : Obj := ⟨(.type "tuple"), none, .seq [(.str (Str.ofString "self") 240), (.str (Str.ofString "tabsize") 241), (.str (Str.ofString "count") 242), (.str (Str.ofString "trailing") 243), (.str (Str.ofString "il") 244), (.str (Str.ofString "i") 245)].toArray 0, [].toArray⟩
noncomputable def o49 (P : Params) : Obj := ⟨(.type "tuple"), none, .seq [].toArray 0, [].toArray⟩
noncomputable def o50 (P : Params) : Obj := ⟨.none, none, .func { name := (Str.ofString "indent_level"), qualname := (Str.ofString "Whitespace.indent_level"), params := fArgs (inCls 2 3), body := .stmts (fBody (inCls 2 3)), scope := fScope (inCls 2 3), globals := 0, closure := [], defaults := .none, kwdefaults := .none, doc := .none, pyModule := .none, annotations := none, code := .none, closureTuple := .none, builtins := 0 }, [].toArray⟩
noncomputable def o51 (P : Params) : Obj := ⟨(.type "code"), none, .fields [(.str (Str.ofString "indent_level") 237), (.str (Str.ofString "Whitespace.indent_level") 238), (.str (Str.ofString "/claim/cut.py") 239), (.int 35 0), (.int 2 0), (.int 0 0), (.int 0 0), (.int 3 0), (.ref 46), (.bool true), (.int 181 0), (.ref 47), .none, (.ref 48), (.ref 49), (.ref 50), (.int 246 0), (.int 35 0), (.str (Str.ofString "/claim/cut.py") 247)].toArray, [].toArray⟩
noncomputable def o52 (P : Params) : Obj := ⟨(.type "function"), none, .func { name := (Str.ofString "indent_level"), qualname := (Str.ofString "Whitespace.indent_level"), params := fArgs (inCls 2 3), body := .stmts (fBody (inCls 2 3)), scope := fScope (inCls 2 3), globals := 3, closure := [], defaults := .none, kwdefaults := .none, doc := .none, pyModule := (.str (Str.ofString "cpy313.tabnanny") 194), annotations := none, code := (.ref 51), closureTuple := .none, builtins := 0 }, [].toArray⟩
noncomputable def o53 (P : Params) : Obj := ⟨(.type "tuple"), none, .seq [].toArray 0, [].toArray⟩
noncomputable def o54 (P : Params) : Obj := ⟨.none, none, .fields [].toArray, [].toArray⟩
noncomputable def o55 (P : Params) : Obj := ⟨(.type "tuple"), none, .seq [(.str (Str.ofString "self") 252), (.str (Str.ofString "other") 253)].toArray 0, [].toArray⟩
noncomputable def o56 (P : Params) : Obj := ⟨(.type "tuple"), none, .seq [].toArray 0, [].toArray⟩
noncomputable def o57 (P : Params) : Obj := ⟨.none, none, .func { name := (Str.ofString "equal"), qualname := (Str.ofString "Whitespace.equal"), params := fArgs (inCls 2 4), body := .stmts (fBody (inCls 2 4)), scope := fScope (inCls 2 4), globals := 0, closure := [], defaults := .none, kwdefaults := .none, doc := .none, pyModule := .none, annotations := none, code := .none, closureTuple := .none, builtins := 0 }, [].toArray⟩
noncomputable def o58 (P : Params) : Obj := ⟨(.type "code"), none, .fields [(.str (Str.ofString "equal") 249), (.str (Str.ofString "Whitespace.equal") 250), (.str (Str.ofString "/claim/cut.py") 251), (.int 42 0), (.int 2 0), (.int 0 0), (.int 0 0), (.int 3 0), (.ref 53), (.bool true), (.int 181 0), (.ref 54), .none, (.ref 55), (.ref 56), (.ref 57), (.int 254 0), (.int 42 0), (.str (Str.ofString "/claim/cut.py") 255)].toArray, [].toArray⟩
noncomputable def o59 (P : Params) : Obj := ⟨(.type "function"), none, .func { name := (Str.ofString "equal"), qualname := (Str.ofString "Whitespace.equal"), params := fArgs (inCls 2 4), body := .stmts (fBody (inCls 2 4)), scope := fScope (inCls 2 4), globals := 3, closure := [], defaults := .none, kwdefaults := .none, doc := .none, pyModule := (.str (Str.ofString "cpy313.tabnanny") 194), annotations := none, code := (.ref 58), closureTuple := .none, builtins := 0 }, [].toArray⟩
noncomputable def o60 (P : Params) : Obj := ⟨(.type "tuple"), none, .seq [].toArray 0, [].toArray⟩
noncomputable def o61 (P : Params) : Obj := ⟨.none, none, .fields [].toArray, [].toArray⟩
noncomputable def o62 (P : Params) : Obj := ⟨(.type "tuple"), none, .seq [(.str (Str.ofString "self") 260), (.str (Str.ofString "other") 261)].toArray 0, [].toArray⟩
noncomputable def o63 (P : Params) : Obj := ⟨(.type "tuple"), none, .seq [].toArray 0, [].toArray⟩
noncomputable def o64 (P : Params) : Obj := ⟨.none, none, .func { name := (Str.ofString "not_equal_witness"), qualname := (Str.ofString "Whitespace.not_equal_witness"), params := fArgs (inCls 2 5), body := .stmts (fBody (inCls 2 5)), scope := fScope (inCls 2 5), globals := 0, closure := [], defaults := .none, kwdefaults := .none, doc := .none, pyModule := .none, annotations := none, code := .none, closureTuple := .none, builtins := 0 }, [].toArray⟩
noncomputable def o65 (P : Params) : Obj := ⟨(.type "code"), none, .fields [(.str (Str.ofString "not_equal_witness") 257), (.str (Str.ofString "Whitespace.not_equal_witness") 258), (.str (Str.ofString "/claim/cut.py") 259), (.int 45 0), (.int 2 0), (.int 0 0), (.int 0 0), (.int 3 0), (.ref 60), (.bool true), (.int 181 0), (.ref 61), .none, (.ref 62), (.ref 63), (.ref 64), (.int 262 0), (.int 45 0), (.str (Str.ofString "/claim/cut.py") 263)].toArray, [].toArray⟩
noncomputable def o66 (P : Params) : Obj := ⟨(.type "function"), none, .func { name := (Str.ofString "not_equal_witness"), qualname := (Str.ofString "Whitespace.not_equal_witness"), params := fArgs (inCls 2 5), body := .stmts (fBody (inCls 2 5)), scope := fScope (inCls 2 5), globals := 3, closure := [], defaults := .none, kwdefaults := .none, doc := .none, pyModule := (.str (Str.ofString "cpy313.tabnanny") 194), annotations := none, code := (.ref 65), closureTuple := .none, builtins := 0 }, [].toArray⟩
noncomputable def o67 (P : Params) : Obj := ⟨(.type "tuple"), none, .seq [].toArray 0, [].toArray⟩
noncomputable def o68 (P : Params) : Obj := ⟨.none, none, .fields [].toArray, [].toArray⟩
noncomputable def o69 (P : Params) : Obj := ⟨(.type "tuple"), none, .seq [(.str (Str.ofString "self") 268), (.str (Str.ofString "other") 269), (.str (Str.ofString "n") 270), (.str (Str.ofString "ts") 271)].toArray 0, [].toArray⟩
noncomputable def o70 (P : Params) : Obj := ⟨(.type "tuple"), none, .seq [].toArray 0, [].toArray⟩
noncomputable def o71 (P : Params) : Obj := ⟨.none, none, .func { name := (Str.ofString "less"), qualname := (Str.ofString "Whitespace.less"), params := fArgs (inCls 2 6), body := .stmts (fBody (inCls 2 6)), scope := fScope (inCls 2 6), globals := 0, closure := [], defaults := .none, kwdefaults := .none, doc := .none, pyModule := .none, annotations := none, code := .none, closureTuple := .none, builtins := 0 }, [].toArray⟩
noncomputable def o72 (P : Params) : Obj := ⟨(.type "code"), none, .fields [(.str (Str.ofString "less") 265), (.str (Str.ofString "Whitespace.less") 266), (.str (Str.ofString "/claim/cut.py") 267), (.int 48 0), (.int 2 0), (.int 0 0), (.int 0 0), (.int 3 0), (.ref 67), (.bool true), (.int 181 0), (.ref 68), .none, (.ref 69), (.ref 70), (.ref 71), (.int 272 0), (.int 48 0), (.str (Str.ofString "/claim/cut.py") 273)].toArray, [].toArray⟩
noncomputable def o73 (P : Params) : Obj := ⟨(.type "function"), none, .func { name := (Str.ofString "less"), qualname := (Str.ofString "Whitespace.less"), params := fArgs (inCls 2 6), body := .stmts (fBody (inCls 2 6)), scope := fScope (inCls 2 6), globals := 3, closure := [], defaults := .none, kwdefaults := .none, doc := .none, pyModule := (.str (Str.ofString "cpy313.tabnanny") 194), annotations := none, code := (.ref 72), closureTuple := .none, builtins := 0 }, [].toArray⟩
noncomputable def o74 (P : Params) : Obj := ⟨(.type "tuple"), none, .seq [].toArray 0, [].toArray⟩
noncomputable def o75 (P : Params) : Obj := ⟨.none, none, .fields [].toArray, [].toArray⟩
noncomputable def o76 (P : Params) : Obj := ⟨(.type "tuple"), none, .seq [(.str (Str.ofString "self") 278), (.str (Str.ofString "other") 279)].toArray 0, [].toArray⟩
noncomputable def o77 (P : Params) : Obj := ⟨(.type "tuple"), none, .seq [].toArray 0, [].toArray⟩
noncomputable def o78 (P : Params) : Obj := ⟨.none, none, .func { name := (Str.ofString "not_less_witness"), qualname := (Str.ofString "Whitespace.not_less_witness"), params := fArgs (inCls 2 7), body := .stmts (fBody (inCls 2 7)), scope := fScope (inCls 2 7), globals := 0, closure := [], defaults := .none, kwdefaults := .none, doc := .none, pyModule := .none, annotations := none, code := .none, closureTuple := .none, builtins := 0 }, [].toArray⟩
noncomputable def o79 (P : Params) : Obj := ⟨(.type "code"), none, .fields [(.str (Str.ofString "not_less_witness") 275), (.str (Str.ofString "Whitespace.not_less_witness") 276), (.str (Str.ofString "/claim/cut.py") 277), (.int 59 0), (.int 2 0), (.int 0 0), (.int 0 0), (.int 3 0), (.ref 74), (.bool true), (.int 181 0), (.ref 75), .none, (.ref 76), (.ref 77), (.ref 78), (.int 280 0), (.int 59 0), (.str (Str.ofString "/claim/cut.py") 281)].toArray, [].toArray⟩
noncomputable def o80 (P : Params) : Obj := ⟨(.type "function"), none, .func { name := (Str.ofString "not_less_witness"), qualname := (Str.ofString "Whitespace.not_less_witness"), params := fArgs (inCls 2 7), body := .stmts (fBody (inCls 2 7)), scope := fScope (inCls 2 7), globals := 3, closure := [], defaults := .none, kwdefaults := .none, doc := .none, pyModule := (.str (Str.ofString "cpy313.tabnanny") 194), annotations := none, code := (.ref 79), closureTuple := .none, builtins := 0 }, [].toArray⟩
noncomputable def o81 (P : Params) : Obj := ⟨(.type "tuple"), none, .seq [(.str (Str.ofString "is_simple") 283), (.str (Str.ofString "n") 284), (.str (Str.ofString "norm") 285), (.str (Str.ofString "nt") 286), (.str (Str.ofString "raw") 287)].toArray 0, [].toArray⟩
noncomputable def o82 (P : Params) : Obj := ⟨(.type "dict"), none, .dict [⟨PyData.keyHash P (Str.ofString "__module__"), (.str (Str.ofString "__module__") 203), (.str (Str.ofString "cpy313.tabnanny") 194)⟩, ⟨PyData.keyHash P (Str.ofString "__firstlineno__"), (.str (Str.ofString "__firstlineno__") 207), (.int 5 206)⟩, ⟨PyData.keyHash P (Str.ofString "S"), (.str (Str.ofString "S") 211), (.str (Str.ofString " ") 209)⟩, ⟨PyData.keyHash P (Str.ofString "T"), (.str (Str.ofString "T") 212), (.str (Str.ofString "\t") 210)⟩, ⟨PyData.keyHash P (Str.ofString "__init__"), (.str (Str.ofString "__init__") 227), (.ref 38)⟩, ⟨PyData.keyHash P (Str.ofString "longest_run_of_spaces"), (.str (Str.ofString "longest_run_of_spaces") 236), (.ref 45)⟩, ⟨PyData.keyHash P (Str.ofString "indent_level"), (.str (Str.ofString "indent_level") 248), (.ref 52)⟩, ⟨PyData.keyHash P (Str.ofString "equal"), (.str (Str.ofString "equal") 256), (.ref 59)⟩, ⟨PyData.keyHash P (Str.ofString "not_equal_witness"), (.str (Str.ofString "not_equal_witness") 264), (.ref 66)⟩, ⟨PyData.keyHash P (Str.ofString "less"), (.str (Str.ofString "less") 274), (.ref 73)⟩, ⟨PyData.keyHash P (Str.ofString "not_less_witness"), (.str (Str.ofString "not_less_witness") 282), (.ref 80)⟩, ⟨PyData.keyHash P (Str.ofString "__static_attributes__"), (.str (Str.ofString "__static_attributes__") 288), (.ref 81)⟩, ⟨PyData.keyHash P (Str.ofString "__dict__"), (.str (Str.ofString "__dict__") 290), (.ref 84)⟩, ⟨PyData.keyHash P (Str.ofString "__weakref__"), (.str (Str.ofString "__weakref__") 292), (.ref 85)⟩, ⟨PyData.keyHash P (Str.ofString "__doc__"), (.str (Str.ofString "__doc__") 293), .none⟩].toArray 4, [].toArray⟩
noncomputable def o83 (P : Params) : Obj := ⟨(.type "type"), none, .cls { name := (Str.ofString "Whitespace"), bases := [(.type "object")], mro := [(.ref 83), (.type "object")], ns := 82, qualname := (Str.ofString "Whitespace"), hasDict := true, slotNames := [], subclasses := [], abstract := false, collection := none, hasDel := false }, [none, none, (some (.str (Str.ofString "Whitespace") 196)), (some (.str (Str.ofString "Whitespace") 204)), (some (.builtin "object.__new__")), (some (.bool true))].toArray⟩
noncomputable def o84 (P : Params) : Obj := ⟨(.type "getset_descriptor"), none, .fields [(.str (Str.ofString "__dict__") 289), (.ref 83), (.builtin "function.__dict__"), (.builtin "function.__dict__#set")].toArray, [].toArray⟩
noncomputable def o85 (P : Params) : Obj := ⟨(.type "getset_descriptor"), none, .fields [(.str (Str.ofString "__weakref__") 291), (.ref 83), (.builtin "ExceptionGroup.__weakref__"), .none].toArray, [].toArray⟩
noncomputable def o86 (P : Params) : Obj := ⟨(.type "super"), none, .fields [(.ref 83), (.ref 83), (.ref 83)].toArray, [].toArray⟩
noncomputable def o87 (P : Params) : Obj := ⟨(.type "builtin_function_or_method"), none, .fields [(.builtin "object.__init_subclass__"), (.ref 83)].toArray, [].toArray⟩
noncomputable def o88 (P : Params) : Obj := ⟨(.type "tuple"), none, .seq [].toArray 0, [].toArray⟩
noncomputable def o89 (P : Params) : Obj := ⟨.none, none, .fields [].toArray, [].toArray⟩
noncomputable def o90 (P : Params) : Obj := ⟨(.type "tuple"), none, .seq [(.str (Str.ofString "num") 301), (.str (Str.ofString "val") 302), (.str (Str.ofString "AP") 303), (.str (Str.ofString "mod") 304)].toArray 0, [].toArray⟩
noncomputable def o91 (P : Params) : Obj := ⟨(.type "tuple"), none, .seq [].toArray 0, [].toArray⟩
noncomputable def o92 (P : Params) : Obj := ⟨.none, none, .func { name := (Str.ofString "Int2AP"), qualname := (Str.ofString "Int2AP"), params := fArgs (top 4), body := .stmts (fBody (top 4)), scope := fScope (top 4), globals := 0, closure := [], defaults := .none, kwdefaults := .none, doc := .none, pyModule := .none, annotations := none, code := .none, closureTuple := .none, builtins := 0 }, [].toArray⟩
noncomputable def o93 (P : Params) : Obj := ⟨(.type "code"), none, .fields [(.str (Str.ofString "Int2AP") 298), (.str (Str.ofString "Int2AP") 299), (.str (Str.ofString "/claim/cut.py") 300), (.int 62 0), (.int 1 0), (.int 0 0), (.int 0 0), (.int 3 0), (.ref 88), (.bool true), (.int 181 0), (.ref 89), .none, (.ref 90), (.ref 91), (.ref 92), (.int 305 0), (.int 62 0), (.str (Str.ofString "/claim/cut.py") 306)].toArray, [].toArray⟩
noncomputable def o94 (P : Params) : Obj := ⟨(.type "function"), none, .func { name := (Str.ofString "Int2AP"), qualname := (Str.ofString "Int2AP"), params := fArgs (top 4), body := .stmts (fBody (top 4)), scope := fScope (top 4), globals := 3, closure := [], defaults := .none, kwdefaults := .none, doc := .none, pyModule := (.str (Str.ofString "cpy313.imaplib") 296), annotations := none, code := (.ref 93), closureTuple := .none, builtins := 0 }, [].toArray⟩
noncomputable def o95 (P : Params) : Obj := ⟨(.type "list"), none, .seq [(.int 173 310), (.int 847 311), (.int 6150 312), (.int 6155 313), (.int 6156 314), (.int 6157 315), (.int 8203 316), (.int 8204 317), (.int 8205 318), (.int 8288 319), (.int 65279 320)].toArray 0, [].toArray⟩
noncomputable def o96 (P : Params) : Obj := ⟨(.type "range"), none, .fields [(.int 65024 321), (.int 65040 322), (.int 1 323)].toArray, [].toArray⟩
noncomputable def o97 (P : Params) : Obj := ⟨(.type "list"), none, .seq [(.int 65024 326), (.int 65025 327), (.int 65026 328), (.int 65027 329), (.int 65028 330), (.int 65029 331), (.int 65030 332), (.int 65031 333), (.int 65032 334), (.int 65033 335), (.int 65034 336), (.int 65035 337), (.int 65036 338), (.int 65037 339), (.int 65038 340), (.int 65039 341)].toArray 18, [].toArray⟩
noncomputable def o98 (P : Params) : Obj := ⟨(.type "range_iterator"), none, .fields [(.int 65040 0), (.int 0 0), (.int 1 0)].toArray, [].toArray⟩
noncomputable def o99 (P : Params) : Obj := ⟨(.type "tuple"), none, .seq [].toArray 0, [].toArray⟩
noncomputable def o100 (P : Params) : Obj := ⟨(.type "StopIteration"), none, .fields [(.ref 99), .none, .none, .none, (.bool false), .none].toArray, [].toArray⟩
noncomputable def o101 (P : Params) : Obj := ⟨(.type "list"), none, .seq [(.int 173 310), (.int 847 311), (.int 6150 312), (.int 6155 313), (.int 6156 314), (.int 6157 315), (.int 8203 316), (.int 8204 317), (.int 8205 318), (.int 8288 319), (.int 65279 320), (.int 65024 326), (.int 65025 327), (.int 65026 328), (.int 65027 329), (.int 65028 330), (.int 65029 331), (.int 65030 332), (.int 65031 333), (.int 65032 334), (.int 65033 335), (.int 65034 336), (.int 65035 337), (.int 65036 338), (.int 65037 339), (.int 65038 340), (.int 65039 341)].toArray 0, [].toArray⟩
noncomputable def o102 (P : Params) : Obj := ⟨(.type "set"), none, .set [(65024, (.int 65024 326)), (65025, (.int 65025 327)), (65026, (.int 65026 328)), (65027, (.int 65027 329)), (65028, (.int 65028 330)), (65029, (.int 65029 331)), (6150, (.int 6150 312)), (65030, (.int 65030 332)), (65031, (.int 65031 333)), (65032, (.int 65032 334)), (65033, (.int 65033 335)), (6155, (.int 6155 313)), (6156, (.int 6156 314)), (6157, (.int 6157 315)), (8203, (.int 8203 316)), (8204, (.int 8204 317)), (8205, (.int 8205 318)), (65034, (.int 65034 336)), (65035, (.int 65035 337)), (65036, (.int 65036 338)), (65037, (.int 65037 339)), (65038, (.int 65038 340)), (65039, (.int 65039 341)), (173, (.int 173 310)), (847, (.int 847 311)), (8288, (.int 8288 319)), (65279, (.int 65279 320))].toArray 29 ⟨127, [0, 1, 2, 3, 4, 5, 6, 7, 8, 9, 10, 11, 12, 13, 14, 15, 16, 17, 18, 19, 20, 21, 22, 45, 79, 96, 127].toArray, [].toArray, 0, !P.followText "set-order", 2, true⟩, [].toArray⟩
noncomputable def o103 (P : Params) : Obj := ⟨(.type "list_iterator"), none, .fields [.none, (.int 27 0)].toArray, [].toArray⟩
noncomputable def o104 (P : Params) : Obj := ⟨(.type "tuple"), none, .seq [].toArray 0, [].toArray⟩
noncomputable def o105 (P : Params) : Obj := ⟨(.type "StopIteration"), none, .fields [(.ref 104), .none, .none, .none, (.bool false), .none].toArray, [].toArray⟩
noncomputable def o106 (P : Params) : Obj := ⟨(.type "tuple"), none, .seq [].toArray 0, [].toArray⟩
noncomputable def o107 (P : Params) : Obj := ⟨.none, none, .fields [].toArray, [].toArray⟩
noncomputable def o108 (P : Params) : Obj := ⟨(.type "tuple"), none, .seq [(.str (Str.ofString "code") 373)].toArray 0, [].toArray⟩
noncomputable def o109 (P : Params) : Obj := ⟨(.type "tuple"), none, .seq [].toArray 0, [].toArray⟩
noncomputable def o110 (P : Params) : Obj := ⟨.none, none, .func { name := (Str.ofString "in_table_b1"), qualname := (Str.ofString "in_table_b1"), params := fArgs (top 7), body := .stmts (fBody (top 7)), scope := fScope (top 7), globals := 0, closure := [], defaults := .none, kwdefaults := .none, doc := .none, pyModule := .none, annotations := none, code := .none, closureTuple := .none, builtins := 0 }, [].toArray⟩
noncomputable def o111 (P : Params) : Obj := ⟨(.type "code"), none, .fields [(.str (Str.ofString "in_table_b1") 370), (.str (Str.ofString "in_table_b1") 371), (.str (Str.ofString "/claim/cut.py") 372), (.int 72 0), (.int 1 0), (.int 0 0), (.int 0 0), (.int 3 0), (.ref 106), (.bool true), (.int 181 0), (.ref 107), .none, (.ref 108), (.ref 109), (.ref 110), (.int 374 0), (.int 72 0), (.str (Str.ofString "/claim/cut.py") 375)].toArray, [].toArray⟩
noncomputable def o112 (P : Params) : Obj := ⟨(.type "function"), none, .func { name := (Str.ofString "in_table_b1"), qualname := (Str.ofString "in_table_b1"), params := fArgs (top 7), body := .stmts (fBody (top 7)), scope := fScope (top 7), globals := 3, closure := [], defaults := .none, kwdefaults := .none, doc := .none, pyModule := (.str (Str.ofString "cpy313.stringprep") 308), annotations := none, code := (.ref 111), closureTuple := .none, builtins := 0 }, [].toArray⟩
noncomputable def o113 (P : Params) : Obj := ⟨(.type "dict"), none, .dict b3ents.toArray 650, [].toArray⟩
noncomputable def o114 (P : Params) : Obj := ⟨(.type "dict"), none, .dict ((b3ents.drop 17).take 17).toArray 17, [].toArray⟩
noncomputable def o115 (P : Params) : Obj := ⟨(.type "dict"), none, .dict ((b3ents.drop 34).take 17).toArray 17, [].toArray⟩
noncomputable def o116 (P : Params) : Obj := ⟨(.type "dict"), none, .dict ((b3ents.drop 51).take 17).toArray 17, [].toArray⟩
noncomputable def o117 (P : Params) : Obj := ⟨(.type "dict"), none, .dict ((b3ents.drop 68).take 17).toArray 17, [].toArray⟩
noncomputable def o118 (P : Params) : Obj := ⟨(.type "dict"), none, .dict ((b3ents.drop 85).take 17).toArray 17, [].toArray⟩
noncomputable def o119 (P : Params) : Obj := ⟨(.type "dict"), none, .dict ((b3ents.drop 102).take 17).toArray 17, [].toArray⟩
noncomputable def o120 (P : Params) : Obj := ⟨(.type "dict"), none, .dict ((b3ents.drop 119).take 17).toArray 17, [].toArray⟩
noncomputable def o121 (P : Params) : Obj := ⟨(.type "dict"), none, .dict ((b3ents.drop 136).take 17).toArray 17, [].toArray⟩
noncomputable def o122 (P : Params) : Obj := ⟨(.type "dict"), none, .dict ((b3ents.drop 153).take 17).toArray 17, [].toArray⟩
noncomputable def o123 (P : Params) : Obj := ⟨(.type "dict"), none, .dict ((b3ents.drop 170).take 17).toArray 17, [].toArray⟩
noncomputable def o124 (P : Params) : Obj := ⟨(.type "dict"), none, .dict ((b3ents.drop 187).take 17).toArray 17, [].toArray⟩
noncomputable def o125 (P : Params) : Obj := ⟨(.type "dict"), none, .dict ((b3ents.drop 204).take 17).toArray 17, [].toArray⟩
noncomputable def o126 (P : Params) : Obj := ⟨(.type "dict"), none, .dict ((b3ents.drop 221).take 17).toArray 17, [].toArray⟩
noncomputable def o127 (P : Params) : Obj := ⟨(.type "dict"), none, .dict ((b3ents.drop 238).take 17).toArray 17, [].toArray⟩
noncomputable def o128 (P : Params) : Obj := ⟨(.type "dict"), none, .dict ((b3ents.drop 255).take 17).toArray 17, [].toArray⟩
noncomputable def o129 (P : Params) : Obj := ⟨(.type "dict"), none, .dict ((b3ents.drop 272).take 17).toArray 17, [].toArray⟩
noncomputable def o130 (P : Params) : Obj := ⟨(.type "dict"), none, .dict ((b3ents.drop 289).take 17).toArray 17, [].toArray⟩
noncomputable def o131 (P : Params) : Obj := ⟨(.type "dict"), none, .dict ((b3ents.drop 306).take 17).toArray 17, [].toArray⟩
noncomputable def o132 (P : Params) : Obj := ⟨(.type "dict"), none, .dict ((b3ents.drop 323).take 17).toArray 17, [].toArray⟩
noncomputable def o133 (P : Params) : Obj := ⟨(.type "dict"), none, .dict ((b3ents.drop 340).take 17).toArray 17, [].toArray⟩
noncomputable def o134 (P : Params) : Obj := ⟨(.type "dict"), none, .dict ((b3ents.drop 357).take 17).toArray 17, [].toArray⟩
noncomputable def o135 (P : Params) : Obj := ⟨(.type "dict"), none, .dict ((b3ents.drop 374).take 17).toArray 17, [].toArray⟩
noncomputable def o136 (P : Params) : Obj := ⟨(.type "dict"), none, .dict ((b3ents.drop 391).take 17).toArray 17, [].toArray⟩
noncomputable def o137 (P : Params) : Obj := ⟨(.type "dict"), none, .dict ((b3ents.drop 408).take 17).toArray 17, [].toArray⟩
noncomputable def o138 (P : Params) : Obj := ⟨(.type "dict"), none, .dict ((b3ents.drop 425).take 17).toArray 17, [].toArray⟩
noncomputable def o139 (P : Params) : Obj := ⟨(.type "dict"), none, .dict ((b3ents.drop 442).take 17).toArray 17, [].toArray⟩
noncomputable def o140 (P : Params) : Obj := ⟨(.type "dict"), none, .dict ((b3ents.drop 459).take 17).toArray 17, [].toArray⟩
noncomputable def o141 (P : Params) : Obj := ⟨(.type "dict"), none, .dict ((b3ents.drop 476).take 17).toArray 17, [].toArray⟩
noncomputable def o142 (P : Params) : Obj := ⟨(.type "dict"), none, .dict ((b3ents.drop 493).take 17).toArray 17, [].toArray⟩
noncomputable def o143 (P : Params) : Obj := ⟨(.type "dict"), none, .dict ((b3ents.drop 510).take 17).toArray 17, [].toArray⟩
noncomputable def o144 (P : Params) : Obj := ⟨(.type "dict"), none, .dict ((b3ents.drop 527).take 17).toArray 17, [].toArray⟩
noncomputable def o145 (P : Params) : Obj := ⟨(.type "dict"), none, .dict ((b3ents.drop 544).take 17).toArray 17, [].toArray⟩
noncomputable def o146 (P : Params) : Obj := ⟨(.type "dict"), none, .dict ((b3ents.drop 561).take 17).toArray 17, [].toArray⟩
noncomputable def o147 (P : Params) : Obj := ⟨(.type "dict"), none, .dict ((b3ents.drop 578).take 17).toArray 17, [].toArray⟩
noncomputable def o148 (P : Params) : Obj := ⟨(.type "dict"), none, .dict ((b3ents.drop 595).take 17).toArray 17, [].toArray⟩
noncomputable def o149 (P : Params) : Obj := ⟨(.type "dict"), none, .dict ((b3ents.drop 612).take 17).toArray 17, [].toArray⟩
noncomputable def o150 (P : Params) : Obj := ⟨(.type "dict"), none, .dict ((b3ents.drop 629).take 17).toArray 17, [].toArray⟩
noncomputable def o151 (P : Params) : Obj := ⟨(.type "dict"), none, .dict ((b3ents.drop 646).take 17).toArray 4, [].toArray⟩
noncomputable def o152 (P : Params) : Obj := ⟨(.type "tuple"), none, .seq [].toArray 0, [].toArray⟩
noncomputable def o153 (P : Params) : Obj := ⟨.none, none, .fields [].toArray, [].toArray⟩
noncomputable def o154 (P : Params) : Obj := ⟨(.type "tuple"), none, .seq [(.str (Str.ofString "code") 2331), (.str (Str.ofString "r") 2332)].toArray 0, [].toArray⟩
noncomputable def o155 (P : Params) : Obj := ⟨(.type "tuple"), none, .seq [].toArray 0, [].toArray⟩
noncomputable def o156 (P : Params) : Obj := ⟨.none, none, .func { name := (Str.ofString "map_table_b3"), qualname := (Str.ofString "map_table_b3"), params := fArgs (top 9), body := .stmts (fBody (top 9)), scope := fScope (top 9), globals := 0, closure := [], defaults := .none, kwdefaults := .none, doc := .none, pyModule := .none, annotations := none, code := .none, closureTuple := .none, builtins := 0 }, [].toArray⟩
noncomputable def o157 (P : Params) : Obj := ⟨(.type "code"), none, .fields [(.str (Str.ofString "map_table_b3") 2328), (.str (Str.ofString "map_table_b3") 2329), (.str (Str.ofString "/claim/cut.py") 2330), (.int 75 0), (.int 1 0), (.int 0 0), (.int 0 0), (.int 3 0), (.ref 152), (.bool true), (.int 181 0), (.ref 153), .none, (.ref 154), (.ref 155), (.ref 156), (.int 2333 0), (.int 75 0), (.str (Str.ofString "/claim/cut.py") 2334)].toArray, [].toArray⟩
noncomputable def o158 (P : Params) : Obj := ⟨(.type "function"), none, .func { name := (Str.ofString "map_table_b3"), qualname := (Str.ofString "map_table_b3"), params := fArgs (top 9), body := .stmts (fBody (top 9)), scope := fScope (top 9), globals := 3, closure := [], defaults := .none, kwdefaults := .none, doc := .none, pyModule := (.str (Str.ofString "cpy313.stringprep") 308), annotations := none, code := (.ref 157), closureTuple := .none, builtins := 0 }, [].toArray⟩
noncomputable def o159 (P : Params) : Obj := ⟨(.type "tuple"), none, .seq [].toArray 0, [].toArray⟩
noncomputable def o160 (P : Params) : Obj := ⟨.none, none, .fields [].toArray, [].toArray⟩
noncomputable def o161 (P : Params) : Obj := ⟨(.type "tuple"), none, .seq [(.str (Str.ofString "text") 2341)].toArray 0, [].toArray⟩
noncomputable def o162 (P : Params) : Obj := ⟨(.type "tuple"), none, .seq [].toArray 0, [].toArray⟩
noncomputable def o163 (P : Params) : Obj := ⟨.none, none, .func { name := (Str.ofString "_raise_serialization_error"), qualname := (Str.ofString "_raise_serialization_error"), params := fArgs (top 11), body := .stmts (fBody (top 11)), scope := fScope (top 11), globals := 0, closure := [], defaults := .none, kwdefaults := .none, doc := .none, pyModule := .none, annotations := none, code := .none, closureTuple := .none, builtins := 0 }, [].toArray⟩
noncomputable def o164 (P : Params) : Obj := ⟨(.type "code"), none, .fields [(.str (Str.ofString "_raise_serialization_error") 2338), (.str (Str.ofString "_raise_serialization_error") 2339), (.str (Str.ofString "/claim/cut.py") 2340), (.int 81 0), (.int 1 0), (.int 0 0), (.int 0 0), (.int 3 0), (.ref 159), (.bool true), (.int 181 0), (.ref 160), .none, (.ref 161), (.ref 162), (.ref 163), (.int 2342 0), (.int 81 0), (.str (Str.ofString "/claim/cut.py") 2343)].toArray, [].toArray⟩
noncomputable def o165 (P : Params) : Obj := ⟨(.type "function"), none, .func { name := (Str.ofString "_raise_serialization_error"), qualname := (Str.ofString "_raise_serialization_error"), params := fArgs (top 11), body := .stmts (fBody (top 11)), scope := fScope (top 11), globals := 3, closure := [], defaults := .none, kwdefaults := .none, doc := .none, pyModule := (.str (Str.ofString "cpy313.xml.etree.ElementTree") 2336), annotations := none, code := (.ref 164), closureTuple := .none, builtins := 0 }, [].toArray⟩
noncomputable def o166 (P : Params) : Obj := ⟨(.type "tuple"), none, .seq [].toArray 0, [].toArray⟩
noncomputable def o167 (P : Params) : Obj := ⟨.none, none, .fields [].toArray, [].toArray⟩
noncomputable def o168 (P : Params) : Obj := ⟨(.type "tuple"), none, .seq [(.str (Str.ofString "text") 2348)].toArray 0, [].toArray⟩
noncomputable def o169 (P : Params) : Obj := ⟨(.type "tuple"), none, .seq [].toArray 0, [].toArray⟩
noncomputable def o170 (P : Params) : Obj := ⟨.none, none, .func { name := (Str.ofString "_escape_cdata"), qualname := (Str.ofString "_escape_cdata"), params := fArgs (top 12), body := .stmts (fBody (top 12)), scope := fScope (top 12), globals := 0, closure := [], defaults := .none, kwdefaults := .none, doc := .none, pyModule := .none, annotations := none, code := .none, closureTuple := .none, builtins := 0 }, [].toArray⟩
noncomputable def o171 (P : Params) : Obj := ⟨(.type "code"), none, .fields [(.str (Str.ofString "_escape_cdata") 2345), (.str (Str.ofString "_escape_cdata") 2346), (.str (Str.ofString "/claim/cut.py") 2347), (.int 83 0), (.int 1 0), (.int 0 0), (.int 0 0), (.int 3 0), (.ref 166), (.bool true), (.int 181 0), (.ref 167), .none, (.ref 168), (.ref 169), (.ref 170), (.int 2349 0), (.int 83 0), (.str (Str.ofString "/claim/cut.py") 2350)].toArray, [].toArray⟩
noncomputable def o172 (P : Params) : Obj := ⟨(.type "function"), none, .func { name := (Str.ofString "_escape_cdata"), qualname := (Str.ofString "_escape_cdata"), params := fArgs (top 12), body := .stmts (fBody (top 12)), scope := fScope (top 12), globals := 3, closure := [], defaults := .none, kwdefaults := .none, doc := .none, pyModule := (.str (Str.ofString "cpy313.xml.etree.ElementTree") 2336), annotations := none, code := (.ref 171), closureTuple := .none, builtins := 0 }, [].toArray⟩
noncomputable def o173 (P : Params) : Obj := ⟨(.type "tuple"), none, .seq [].toArray 0, [].toArray⟩
noncomputable def o174 (P : Params) : Obj := ⟨.none, none, .fields [].toArray, [].toArray⟩
noncomputable def o175 (P : Params) : Obj := ⟨(.type "tuple"), none, .seq [(.str (Str.ofString "text") 2355)].toArray 0, [].toArray⟩
noncomputable def o176 (P : Params) : Obj := ⟨(.type "tuple"), none, .seq [].toArray 0, [].toArray⟩
noncomputable def o177 (P : Params) : Obj := ⟨.none, none, .func { name := (Str.ofString "_escape_attrib"), qualname := (Str.ofString "_escape_attrib"), params := fArgs (top 13), body := .stmts (fBody (top 13)), scope := fScope (top 13), globals := 0, closure := [], defaults := .none, kwdefaults := .none, doc := .none, pyModule := .none, annotations := none, code := .none, closureTuple := .none, builtins := 0 }, [].toArray⟩
noncomputable def o178 (P : Params) : Obj := ⟨(.type "code"), none, .fields [(.str (Str.ofString "_escape_attrib") 2352), (.str (Str.ofString "_escape_attrib") 2353), (.str (Str.ofString "/claim/cut.py") 2354), (.int 94 0), (.int 1 0), (.int 0 0), (.int 0 0), (.int 3 0), (.ref 173), (.bool true), (.int 181 0), (.ref 174), .none, (.ref 175), (.ref 176), (.ref 177), (.int 2356 0), (.int 94 0), (.str (Str.ofString "/claim/cut.py") 2357)].toArray, [].toArray⟩
noncomputable def o179 (P : Params) : Obj := ⟨(.type "function"), none, .func { name := (Str.ofString "_escape_attrib"), qualname := (Str.ofString "_escape_attrib"), params := fArgs (top 13), body := .stmts (fBody (top 13)), scope := fScope (top 13), globals := 3, closure := [], defaults := .none, kwdefaults := .none, doc := .none, pyModule := (.str (Str.ofString "cpy313.xml.etree.ElementTree") 2336), annotations := none, code := (.ref 178), closureTuple := .none, builtins := 0 }, [].toArray⟩
noncomputable def o180 (P : Params) : Obj := ⟨(.type "tuple"), none, .seq [].toArray 0, [].toArray⟩
noncomputable def o181 (P : Params) : Obj := ⟨.none, none, .fields [].toArray, [].toArray⟩
noncomputable def o182 (P : Params) : Obj := ⟨(.type "tuple"), none, .seq [(.str (Str.ofString "text") 2362)].toArray 0, [].toArray⟩
noncomputable def o183 (P : Params) : Obj := ⟨(.type "tuple"), none, .seq [].toArray 0, [].toArray⟩
noncomputable def o184 (P : Params) : Obj := ⟨.none, none, .func { name := (Str.ofString "_escape_attrib_html"), qualname := (Str.ofString "_escape_attrib_html"), params := fArgs (top 14), body := .stmts (fBody (top 14)), scope := fScope (top 14), globals := 0, closure := [], defaults := .none, kwdefaults := .none, doc := .none, pyModule := .none, annotations := none, code := .none, closureTuple := .none, builtins := 0 }, [].toArray⟩
noncomputable def o185 (P : Params) : Obj := ⟨(.type "code"), none, .fields [(.str (Str.ofString "_escape_attrib_html") 2359), (.str (Str.ofString "_escape_attrib_html") 2360), (.str (Str.ofString "/claim/cut.py") 2361), (.int 113 0), (.int 1 0), (.int 0 0), (.int 0 0), (.int 3 0), (.ref 180), (.bool true), (.int 181 0), (.ref 181), .none, (.ref 182), (.ref 183), (.ref 184), (.int 2363 0), (.int 113 0), (.str (Str.ofString "/claim/cut.py") 2364)].toArray, [].toArray⟩
noncomputable def o186 (P : Params) : Obj := ⟨(.type "function"), none, .func { name := (Str.ofString "_escape_attrib_html"), qualname := (Str.ofString "_escape_attrib_html"), params := fArgs (top 14), body := .stmts (fBody (top 14)), scope := fScope (top 14), globals := 3, closure := [], defaults := .none, kwdefaults := .none, doc := .none, pyModule := (.str (Str.ofString "cpy313.xml.etree.ElementTree") 2336), annotations := none, code := (.ref 185), closureTuple := .none, builtins := 0 }, [].toArray⟩
noncomputable def o187 (P : Params) : Obj := ⟨(.type "tuple"), none, .seq [].toArray 0, [].toArray⟩
noncomputable def o188 (P : Params) : Obj := ⟨.none, none, .fields [].toArray, [].toArray⟩
noncomputable def o189 (P : Params) : Obj := ⟨(.type "tuple"), none, .seq [(.str (Str.ofString "text") 2369)].toArray 0, [].toArray⟩
noncomputable def o190 (P : Params) : Obj := ⟨(.type "tuple"), none, .seq [].toArray 0, [].toArray⟩
noncomputable def o191 (P : Params) : Obj := ⟨.none, none, .func { name := (Str.ofString "_escape_cdata_c14n"), qualname := (Str.ofString "_escape_cdata_c14n"), params := fArgs (top 15), body := .stmts (fBody (top 15)), scope := fScope (top 15), globals := 0, closure := [], defaults := .none, kwdefaults := .none, doc := .none, pyModule := .none, annotations := none, code := .none, closureTuple := .none, builtins := 0 }, [].toArray⟩
noncomputable def o192 (P : Params) : Obj := ⟨(.type "code"), none, .fields [(.str (Str.ofString "_escape_cdata_c14n") 2366), (.str (Str.ofString "_escape_cdata_c14n") 2367), (.str (Str.ofString "/claim/cut.py") 2368), (.int 124 0), (.int 1 0), (.int 0 0), (.int 0 0), (.int 3 0), (.ref 187), (.bool true), (.int 181 0), (.ref 188), .none, (.ref 189), (.ref 190), (.ref 191), (.int 2370 0), (.int 124 0), (.str (Str.ofString "/claim/cut.py") 2371)].toArray, [].toArray⟩
noncomputable def o193 (P : Params) : Obj := ⟨(.type "function"), none, .func { name := (Str.ofString "_escape_cdata_c14n"), qualname := (Str.ofString "_escape_cdata_c14n"), params := fArgs (top 15), body := .stmts (fBody (top 15)), scope := fScope (top 15), globals := 3, closure := [], defaults := .none, kwdefaults := .none, doc := .none, pyModule := (.str (Str.ofString "cpy313.xml.etree.ElementTree") 2336), annotations := none, code := (.ref 192), closureTuple := .none, builtins := 0 }, [].toArray⟩
noncomputable def o194 (P : Params) : Obj := ⟨(.type "tuple"), none, .seq [].toArray 0, [].toArray⟩
noncomputable def o195 (P : Params) : Obj := ⟨.none, none, .fields [].toArray, [].toArray⟩
noncomputable def o196 (P : Params) : Obj := ⟨(.type "tuple"), none, .seq [(.str (Str.ofString "usable") 2378), (.str (Str.ofString "choice") 2379), (.str (Str.ofString "formula") 2380)].toArray 0, [].toArray⟩
noncomputable def o197 (P : Params) : Obj := ⟨(.type "tuple"), none, .seq [].toArray 0, [].toArray⟩
noncomputable def o198 (P : Params) : Obj := ⟨.none, none, .func { name := (Str.ofString "_law_taken"), qualname := (Str.ofString "_law_taken"), params := fArgs (top 17), body := .stmts (fBody (top 17)), scope := fScope (top 17), globals := 0, closure := [], defaults := .none, kwdefaults := .none, doc := .none, pyModule := .none, annotations := none, code := .none, closureTuple := .none, builtins := 0 }, [].toArray⟩
noncomputable def o199 (P : Params) : Obj := ⟨(.type "code"), none, .fields [(.str (Str.ofString "_law_taken") 2375), (.str (Str.ofString "_law_taken") 2376), (.str (Str.ofString "/claim/cut.py") 2377), (.int 138 0), (.int 2 0), (.int 0 0), (.int 0 0), (.int 3 0), (.ref 194), (.bool true), (.int 181 0), (.ref 195), .none, (.ref 196), (.ref 197), (.ref 198), (.int 2381 0), (.int 138 0), (.str (Str.ofString "/claim/cut.py") 2382)].toArray, [].toArray⟩
noncomputable def o200 (P : Params) : Obj := ⟨(.type "function"), none, .func { name := (Str.ofString "_law_taken"), qualname := (Str.ofString "_law_taken"), params := fArgs (top 17), body := .stmts (fBody (top 17)), scope := fScope (top 17), globals := 3, closure := [], defaults := .none, kwdefaults := .none, doc := .none, pyModule := (.str (Str.ofString "law_wb0095_01") 2373), annotations := none, code := (.ref 199), closureTuple := .none, builtins := 0 }, [].toArray⟩
noncomputable def o201 (P : Params) : Obj := ⟨(.type "tuple"), none, .seq [].toArray 0, [].toArray⟩
noncomputable def o202 (P : Params) : Obj := ⟨.none, none, .fields [].toArray, [].toArray⟩
noncomputable def o203 (P : Params) : Obj := ⟨.none, none, .func { name := (Str.ofString "_law_drawn"), qualname := (Str.ofString "_law_drawn"), params := fArgs (top 18), body := .stmts (fBody (top 18)), scope := fScope (top 18), globals := 0, closure := [], defaults := .none, kwdefaults := .none, doc := .none, pyModule := .none, annotations := none, code := .none, closureTuple := .none, builtins := 0 }, [].toArray⟩
noncomputable def o204 (P : Params) : Obj := ⟨(.type "code"), none, .fields [(.str (Str.ofString "_law_drawn") 2384), (.str (Str.ofString "_law_drawn") 2385), (.str (Str.ofString "/claim/cut.py") 2386), (.int 145 0), (.int 1 0), (.int 0 0), (.int 0 0), (.int 3 0), (.ref 201), (.bool true), (.int 181 0), (.ref 202), .none, .none, .none, (.ref 203), (.int 2387 0), (.int 145 0), (.str (Str.ofString "/claim/cut.py") 2388)].toArray, [].toArray⟩
noncomputable def o205 (P : Params) : Obj := ⟨(.type "function"), none, .func { name := (Str.ofString "_law_drawn"), qualname := (Str.ofString "_law_drawn"), params := fArgs (top 18), body := .stmts (fBody (top 18)), scope := fScope (top 18), globals := 3, closure := [], defaults := .none, kwdefaults := .none, doc := .none, pyModule := (.str (Str.ofString "law_wb0095_01") 2373), annotations := none, code := (.ref 204), closureTuple := .none, builtins := 0 }, [].toArray⟩
noncomputable def o206 (P : Params) : Obj := ⟨(.type "tuple"), none, .seq [].toArray 0, [].toArray⟩
noncomputable def o207 (P : Params) : Obj := ⟨.none, none, .fields [].toArray, [].toArray⟩
noncomputable def o208 (P : Params) : Obj := ⟨.none, none, .func { name := (Str.ofString "_law_text"), qualname := (Str.ofString "_law_text"), params := fArgs (top 19), body := .stmts (fBody (top 19)), scope := fScope (top 19), globals := 0, closure := [], defaults := .none, kwdefaults := .none, doc := .none, pyModule := .none, annotations := none, code := .none, closureTuple := .none, builtins := 0 }, [].toArray⟩
noncomputable def o209 (P : Params) : Obj := ⟨(.type "code"), none, .fields [(.str (Str.ofString "_law_text") 2390), (.str (Str.ofString "_law_text") 2391), (.str (Str.ofString "/claim/cut.py") 2392), (.int 163 0), (.int 2 0), (.int 0 0), (.int 0 0), (.int 3 0), (.ref 206), (.bool true), (.int 181 0), (.ref 207), .none, .none, .none, (.ref 208), (.int 2393 0), (.int 163 0), (.str (Str.ofString "/claim/cut.py") 2394)].toArray, [].toArray⟩
noncomputable def o210 (P : Params) : Obj := ⟨(.type "function"), none, .func { name := (Str.ofString "_law_text"), qualname := (Str.ofString "_law_text"), params := fArgs (top 19), body := .stmts (fBody (top 19)), scope := fScope (top 19), globals := 3, closure := [], defaults := .none, kwdefaults := .none, doc := .none, pyModule := (.str (Str.ofString "law_wb0095_01") 2373), annotations := none, code := (.ref 209), closureTuple := .none, builtins := 0 }, [].toArray⟩
noncomputable def o211 (P : Params) : Obj := ⟨(.type "tuple"), none, .seq [].toArray 0, [].toArray⟩
noncomputable def o212 (P : Params) : Obj := ⟨.none, none, .fields [].toArray, [].toArray⟩
noncomputable def o213 (P : Params) : Obj := ⟨(.type "tuple"), none, .seq [(.str (Str.ofString "text") 2399), (.str (Str.ofString "hand") 2400)].toArray 0, [].toArray⟩
noncomputable def o214 (P : Params) : Obj := ⟨(.type "tuple"), none, .seq [].toArray 0, [].toArray⟩
noncomputable def o215 (P : Params) : Obj := ⟨.none, none, .func { name := (Str.ofString "_law_escaped"), qualname := (Str.ofString "_law_escaped"), params := fArgs (top 20), body := .stmts (fBody (top 20)), scope := fScope (top 20), globals := 0, closure := [], defaults := .none, kwdefaults := .none, doc := .none, pyModule := .none, annotations := none, code := .none, closureTuple := .none, builtins := 0 }, [].toArray⟩
noncomputable def o216 (P : Params) : Obj := ⟨(.type "code"), none, .fields [(.str (Str.ofString "_law_escaped") 2396), (.str (Str.ofString "_law_escaped") 2397), (.str (Str.ofString "/claim/cut.py") 2398), (.int 169 0), (.int 2 0), (.int 0 0), (.int 0 0), (.int 3 0), (.ref 211), (.bool true), (.int 181 0), (.ref 212), .none, (.ref 213), (.ref 214), (.ref 215), (.int 2401 0), (.int 169 0), (.str (Str.ofString "/claim/cut.py") 2402)].toArray, [].toArray⟩
noncomputable def o217 (P : Params) : Obj := ⟨(.type "function"), none, .func { name := (Str.ofString "_law_escaped"), qualname := (Str.ofString "_law_escaped"), params := fArgs (top 20), body := .stmts (fBody (top 20)), scope := fScope (top 20), globals := 3, closure := [], defaults := .none, kwdefaults := .none, doc := .none, pyModule := (.str (Str.ofString "law_wb0095_01") 2373), annotations := none, code := (.ref 216), closureTuple := .none, builtins := 0 }, [].toArray⟩
noncomputable def o218 (P : Params) : Obj := ⟨(.type "tuple"), none, .seq [].toArray 0, [].toArray⟩
noncomputable def o219 (P : Params) : Obj := ⟨.none, none, .fields [].toArray, [].toArray⟩
noncomputable def o220 (P : Params) : Obj := ⟨.none, none, .func { name := (Str.ofString "_law_line"), qualname := (Str.ofString "_law_line"), params := fArgs (top 21), body := .stmts (fBody (top 21)), scope := fScope (top 21), globals := 0, closure := [], defaults := .none, kwdefaults := .none, doc := .none, pyModule := .none, annotations := none, code := .none, closureTuple := .none, builtins := 0 }, [].toArray⟩
noncomputable def o221 (P : Params) : Obj := ⟨(.type "code"), none, .fields [(.str (Str.ofString "_law_line") 2404), (.str (Str.ofString "_law_line") 2405), (.str (Str.ofString "/claim/cut.py") 2406), (.int 173 0), (.int 2 0), (.int 0 0), (.int 0 0), (.int 3 0), (.ref 218), (.bool true), (.int 181 0), (.ref 219), .none, .none, .none, (.ref 220), (.int 2407 0), (.int 173 0), (.str (Str.ofString "/claim/cut.py") 2408)].toArray, [].toArray⟩
noncomputable def o222 (P : Params) : Obj := ⟨(.type "function"), none, .func { name := (Str.ofString "_law_line"), qualname := (Str.ofString "_law_line"), params := fArgs (top 21), body := .stmts (fBody (top 21)), scope := fScope (top 21), globals := 3, closure := [], defaults := .none, kwdefaults := .none, doc := .none, pyModule := (.str (Str.ofString "law_wb0095_01") 2373), annotations := none, code := (.ref 221), closureTuple := .none, builtins := 0 }, [].toArray⟩
noncomputable def o223 (P : Params) : Obj := ⟨(.type "tuple"), none, .seq [].toArray 0, [].toArray⟩
noncomputable def o224 (P : Params) : Obj := ⟨.none, none, .fields [].toArray, [].toArray⟩
noncomputable def o225 (P : Params) : Obj := ⟨(.type "tuple"), none, .seq [(.str (Str.ofString "signs") 2413), (.str (Str.ofString "sign") 2414), (.str (Str.ofString "one") 2415), (.str (Str.ofString "joint") 2416), (.str (Str.ofString "other") 2417)].toArray 0, [].toArray⟩
noncomputable def o226 (P : Params) : Obj := ⟨(.type "tuple"), none, .seq [].toArray 0, [].toArray⟩
noncomputable def o227 (P : Params) : Obj := ⟨.none, none, .func { name := (Str.ofString "_law_cases"), qualname := (Str.ofString "_law_cases"), params := fArgs (top 22), body := .stmts (fBody (top 22)), scope := fScope (top 22), globals := 0, closure := [], defaults := .none, kwdefaults := .none, doc := .none, pyModule := .none, annotations := none, code := .none, closureTuple := .none, builtins := 0 }, [].toArray⟩
noncomputable def o228 (P : Params) : Obj := ⟨(.type "code"), none, .fields [(.str (Str.ofString "_law_cases") 2410), (.str (Str.ofString "_law_cases") 2411), (.str (Str.ofString "/claim/cut.py") 2412), (.int 180 0), (.int 1 0), (.int 0 0), (.int 0 0), (.int 3 0), (.ref 223), (.bool true), (.int 181 0), (.ref 224), .none, (.ref 225), (.ref 226), (.ref 227), (.int 2418 0), (.int 180 0), (.str (Str.ofString "/claim/cut.py") 2419)].toArray, [].toArray⟩
noncomputable def o229 (P : Params) : Obj := ⟨(.type "function"), none, .func { name := (Str.ofString "_law_cases"), qualname := (Str.ofString "_law_cases"), params := fArgs (top 22), body := .stmts (fBody (top 22)), scope := fScope (top 22), globals := 3, closure := [], defaults := .none, kwdefaults := .none, doc := .none, pyModule := (.str (Str.ofString "law_wb0095_01") 2373), annotations := none, code := (.ref 228), closureTuple := .none, builtins := 0 }, [].toArray⟩
noncomputable def o230 (P : Params) : Obj := ⟨(.type "tuple"), none, .seq [].toArray 0, [].toArray⟩
noncomputable def o231 (P : Params) : Obj := ⟨.none, none, .fields [].toArray, [].toArray⟩
noncomputable def o232 (P : Params) : Obj := ⟨.none, none, .func { name := (Str.ofString "_law_judged"), qualname := (Str.ofString "_law_judged"), params := fArgs (top 23), body := .stmts (fBody (top 23)), scope := fScope (top 23), globals := 0, closure := [], defaults := .none, kwdefaults := .none, doc := .none, pyModule := .none, annotations := none, code := .none, closureTuple := .none, builtins := 0 }, [].toArray⟩
noncomputable def o233 (P : Params) : Obj := ⟨(.type "code"), none, .fields [(.str (Str.ofString "_law_judged") 2421), (.str (Str.ofString "_law_judged") 2422), (.str (Str.ofString "/claim/cut.py") 2423), (.int 189 0), (.int 1 0), (.int 0 0), (.int 0 0), (.int 3 0), (.ref 230), (.bool true), (.int 181 0), (.ref 231), .none, .none, .none, (.ref 232), (.int 2424 0), (.int 189 0), (.str (Str.ofString "/claim/cut.py") 2425)].toArray, [].toArray⟩
noncomputable def o234 (P : Params) : Obj := ⟨(.type "function"), none, .func { name := (Str.ofString "_law_judged"), qualname := (Str.ofString "_law_judged"), params := fArgs (top 23), body := .stmts (fBody (top 23)), scope := fScope (top 23), globals := 3, closure := [], defaults := .none, kwdefaults := .none, doc := .none, pyModule := (.str (Str.ofString "law_wb0095_01") 2373), annotations := none, code := (.ref 233), closureTuple := .none, builtins := 0 }, [].toArray⟩
noncomputable def o235 (P : Params) : Obj := ⟨(.type "tuple"), none, .seq [].toArray 0, [].toArray⟩
noncomputable def o236 (P : Params) : Obj := ⟨.none, none, .fields [].toArray, [].toArray⟩
noncomputable def o237 (P : Params) : Obj := ⟨.none, none, .func { name := (Str.ofString "_law_plain"), qualname := (Str.ofString "_law_plain"), params := fArgs (top 24), body := .stmts (fBody (top 24)), scope := fScope (top 24), globals := 0, closure := [], defaults := .none, kwdefaults := .none, doc := .none, pyModule := .none, annotations := none, code := .none, closureTuple := .none, builtins := 0 }, [].toArray⟩
noncomputable def o238 (P : Params) : Obj := ⟨(.type "code"), none, .fields [(.str (Str.ofString "_law_plain") 2427), (.str (Str.ofString "_law_plain") 2428), (.str (Str.ofString "/claim/cut.py") 2429), (.int 205 0), (.int 1 0), (.int 0 0), (.int 0 0), (.int 3 0), (.ref 235), (.bool true), (.int 181 0), (.ref 236), .none, .none, .none, (.ref 237), (.int 2430 0), (.int 205 0), (.str (Str.ofString "/claim/cut.py") 2431)].toArray, [].toArray⟩
noncomputable def o239 (P : Params) : Obj := ⟨(.type "function"), none, .func { name := (Str.ofString "_law_plain"), qualname := (Str.ofString "_law_plain"), params := fArgs (top 24), body := .stmts (fBody (top 24)), scope := fScope (top 24), globals := 3, closure := [], defaults := .none, kwdefaults := .none, doc := .none, pyModule := (.str (Str.ofString "law_wb0095_01") 2373), annotations := none, code := (.ref 238), closureTuple := .none, builtins := 0 }, [].toArray⟩
noncomputable def o240 (P : Params) : Obj := ⟨(.type "tuple"), none, .seq [].toArray 0, [].toArray⟩
noncomputable def o241 (P : Params) : Obj := ⟨.none, none, .fields [].toArray, [].toArray⟩
noncomputable def o242 (P : Params) : Obj := ⟨.none, none, .func { name := (Str.ofString "_law_letters"), qualname := (Str.ofString "_law_letters"), params := fArgs (top 25), body := .stmts (fBody (top 25)), scope := fScope (top 25), globals := 0, closure := [], defaults := .none, kwdefaults := .none, doc := .none, pyModule := .none, annotations := none, code := .none, closureTuple := .none, builtins := 0 }, [].toArray⟩
noncomputable def o243 (P : Params) : Obj := ⟨(.type "code"), none, .fields [(.str (Str.ofString "_law_letters") 2433), (.str (Str.ofString "_law_letters") 2434), (.str (Str.ofString "/claim/cut.py") 2435), (.int 210 0), (.int 1 0), (.int 0 0), (.int 0 0), (.int 3 0), (.ref 240), (.bool true), (.int 181 0), (.ref 241), .none, .none, .none, (.ref 242), (.int 2436 0), (.int 210 0), (.str (Str.ofString "/claim/cut.py") 2437)].toArray, [].toArray⟩
noncomputable def o244 (P : Params) : Obj := ⟨(.type "function"), none, .func { name := (Str.ofString "_law_letters"), qualname := (Str.ofString "_law_letters"), params := fArgs (top 25), body := .stmts (fBody (top 25)), scope := fScope (top 25), globals := 3, closure := [], defaults := .none, kwdefaults := .none, doc := .none, pyModule := (.str (Str.ofString "law_wb0095_01") 2373), annotations := none, code := (.ref 243), closureTuple := .none, builtins := 0 }, [].toArray⟩
noncomputable def o245 (P : Params) : Obj := ⟨(.type "tuple"), none, .seq [].toArray 0, [].toArray⟩
noncomputable def o246 (P : Params) : Obj := ⟨.none, none, .fields [].toArray, [].toArray⟩
noncomputable def o247 (P : Params) : Obj := ⟨.none, none, .func { name := (Str.ofString "law"), qualname := (Str.ofString "law"), params := fArgs (top 26), body := .stmts (fBody (top 26)), scope := fScope (top 26), globals := 0, closure := [], defaults := .none, kwdefaults := .none, doc := .none, pyModule := .none, annotations := none, code := .none, closureTuple := .none, builtins := 0 }, [].toArray⟩
noncomputable def o248 (P : Params) : Obj := ⟨(.type "code"), none, .fields [(.str (Str.ofString "law") 2439), (.str (Str.ofString "law") 2440), (.str (Str.ofString "/claim/cut.py") 2441), (.int 213 0), (.int 1 0), (.int 0 0), (.int 0 0), (.int 3 0), (.ref 245), (.bool true), (.int 181 0), (.ref 246), .none, .none, .none, (.ref 247), (.int 2442 0), (.int 213 0), (.str (Str.ofString "/claim/cut.py") 2443)].toArray, [].toArray⟩
noncomputable def o249 (P : Params) : Obj := ⟨(.type "function"), none, .func { name := (Str.ofString "law"), qualname := (Str.ofString "law"), params := fArgs (top 26), body := .stmts (fBody (top 26)), scope := fScope (top 26), globals := 3, closure := [], defaults := .none, kwdefaults := .none, doc := .none, pyModule := (.str (Str.ofString "law_wb0095_01") 2373), annotations := none, code := (.ref 248), closureTuple := .none, builtins := 0 }, [].toArray⟩

/-- the heap that the top leaves -/
noncomputable def KK (P : Params) : List (Addr × Obj) :=
  [(0, boot_o_0 P), (1, boot_o_1 P), (2, boot_o_2 P), (3, o3 P), (4, boot_o_4 P), (5, boot_o_5 P), (6, boot_o_6 P), (7, boot_o_7 P), (8, boot_o_8 P), (9, boot_o_9 P),
   (10, boot_o_10 P), (11, o11 P), (12, o12 P), (13, o13 P), (14, o14 P), (15, o15 P), (16, o16 P), (17, o17 P), (18, o18 P), (19, o19 P),
   (20, o20 P), (21, o21 P), (22, o22 P), (23, o23 P), (24, o24 P), (25, o25 P), (26, o26 P), (27, o27 P), (28, o28 P), (29, o29 P),
   (30, o30 P), (31, o31 P), (32, o32 P), (33, o33 P), (34, o34 P), (35, o35 P), (36, o36 P), (37, o37 P), (38, o38 P), (39, o39 P),
   (40, o40 P), (41, o41 P), (42, o42 P), (43, o43 P), (44, o44 P), (45, o45 P), (46, o46 P), (47, o47 P), (48, o48 P), (49, o49 P),
   (50, o50 P), (51, o51 P), (52, o52 P), (53, o53 P), (54, o54 P), (55, o55 P), (56, o56 P), (57, o57 P), (58, o58 P), (59, o59 P),
   (60, o60 P), (61, o61 P), (62, o62 P), (63, o63 P), (64, o64 P), (65, o65 P), (66, o66 P), (67, o67 P), (68, o68 P), (69, o69 P),
   (70, o70 P), (71, o71 P), (72, o72 P), (73, o73 P), (74, o74 P), (75, o75 P), (76, o76 P), (77, o77 P), (78, o78 P), (79, o79 P),
   (80, o80 P), (81, o81 P), (82, o82 P), (83, o83 P), (84, o84 P), (85, o85 P), (86, o86 P), (87, o87 P), (88, o88 P), (89, o89 P),
   (90, o90 P), (91, o91 P), (92, o92 P), (93, o93 P), (94, o94 P), (95, o95 P), (96, o96 P), (97, o97 P), (98, o98 P), (99, o99 P),
   (100, o100 P), (101, o101 P), (102, o102 P), (103, o103 P), (104, o104 P), (105, o105 P), (106, o106 P), (107, o107 P), (108, o108 P), (109, o109 P),
   (110, o110 P), (111, o111 P), (112, o112 P), (113, o113 P), (114, o114 P), (115, o115 P), (116, o116 P), (117, o117 P), (118, o118 P), (119, o119 P),
   (120, o120 P), (121, o121 P), (122, o122 P), (123, o123 P), (124, o124 P), (125, o125 P), (126, o126 P), (127, o127 P), (128, o128 P), (129, o129 P),
   (130, o130 P), (131, o131 P), (132, o132 P), (133, o133 P), (134, o134 P), (135, o135 P), (136, o136 P), (137, o137 P), (138, o138 P), (139, o139 P),
   (140, o140 P), (141, o141 P), (142, o142 P), (143, o143 P), (144, o144 P), (145, o145 P), (146, o146 P), (147, o147 P), (148, o148 P), (149, o149 P),
   (150, o150 P), (151, o151 P), (152, o152 P), (153, o153 P), (154, o154 P), (155, o155 P), (156, o156 P), (157, o157 P), (158, o158 P), (159, o159 P),
   (160, o160 P), (161, o161 P), (162, o162 P), (163, o163 P), (164, o164 P), (165, o165 P), (166, o166 P), (167, o167 P), (168, o168 P), (169, o169 P),
   (170, o170 P), (171, o171 P), (172, o172 P), (173, o173 P), (174, o174 P), (175, o175 P), (176, o176 P), (177, o177 P), (178, o178 P), (179, o179 P),
   (180, o180 P), (181, o181 P), (182, o182 P), (183, o183 P), (184, o184 P), (185, o185 P), (186, o186 P), (187, o187 P), (188, o188 P), (189, o189 P),
   (190, o190 P), (191, o191 P), (192, o192 P), (193, o193 P), (194, o194 P), (195, o195 P), (196, o196 P), (197, o197 P), (198, o198 P), (199, o199 P),
   (200, o200 P), (201, o201 P), (202, o202 P), (203, o203 P), (204, o204 P), (205, o205 P), (206, o206 P), (207, o207 P), (208, o208 P), (209, o209 P),
   (210, o210 P), (211, o211 P), (212, o212 P), (213, o213 P), (214, o214 P), (215, o215 P), (216, o216 P), (217, o217 P), (218, o218 P), (219, o219 P),
   (220, o220 P), (221, o221 P), (222, o222 P), (223, o223 P), (224, o224 P), (225, o225 P), (226, o226 P), (227, o227 P), (228, o228 P), (229, o229 P),
   (230, o230 P), (231, o231 P), (232, o232 P), (233, o233 P), (234, o234 P), (235, o235 P), (236, o236 P), (237, o237 P), (238, o238 P), (239, o239 P),
   (240, o240 P), (241, o241 P), (242, o242 P), (243, o243 P), (244, o244 P), (245, o245 P), (246, o246 P), (247, o247 P), (248, o248 P), (249, o249 P)]
end Mine

namespace Mine
open PySem PySem.W PyProof.Rows

/-! ## data, and how a heap bears it -/
inductive Dt where
  | none
  | bool (b : Bool)
  | int (i : Int)
  | str (x : Str)
  | bytes (b : Array UInt8)
  | tup (l : List Dt)
  | lst (l : List Dt)
  | inst (l : List Dt)
  | own (a : Addr)

noncomputable abbrev Ext (h h' : Heap) : Prop := ∀ b o, h.get? b = some o → h'.get? b = some o

noncomputable def wsNames : List Str := [("raw" : Str), ("n" : Str), ("nt" : Str), ("norm" : Str), ("is_simple" : Str)]
/-- a made Whitespace: its class and its dict -/
noncomputable def IsInst (h : Heap) (a dx : Addr) (m : Str → Option Value) : Prop :=
  (∃ o, h.get? a = some o ∧ o.cls = .ref 83 ∧ o.dict = some dx ∧ ∀ c, o.data ≠ .cls c) ∧ dx ≠ a ∧ h.Ns1 dx m ∧ ∀ y, y ∉ wsNames → m y = none

mutual
noncomputable def Is (h : Heap) (X : List Addr) : Dt → Value → Prop
  | .none, v => v = .none
  | .bool b, v => v = .bool b
  | .int i, v => ∃ t, v = .int i t
  | .str x, v => ∃ t, v = .str x t
  | .bytes b, v => ∃ t, v = .bytes b t
  | .tup ds, v => ∃ a vs, v = .ref a ∧ a ∉ X ∧ h.IsTuple a (List.toArray vs) ∧ IsAll h X ds vs
  | .lst ds, v => ∃ a vs, v = .ref a ∧ a ∉ X ∧ h.PlainList a (List.toArray vs) ∧ IsAll h X ds vs
  | .own a, v => v = .ref a
  | .inst ds, v => ∃ a dx m vs, v = .ref a ∧ a ∉ X ∧ dx ∉ X ∧ IsInst h a dx m ∧ wsNames.map m = vs.map some ∧ IsAll h X ds vs
noncomputable def IsAll (h : Heap) (X : List Addr) : List Dt → List Value → Prop
  | [], vs => vs = []
  | d :: ds, vs => ∃ v r, vs = v :: r ∧ Is h X d v ∧ IsAll h X ds r
end

theorem IsAll.length {h : Heap} {X : List Addr} : ∀ {ds : List Dt} {vs : List Value}, IsAll h X ds vs → vs.length = ds.length
  | [], vs, e => by simp only [IsAll] at e; subst e; rfl
  | d :: ds, vs, e => by
    simp only [IsAll] at e
    obtain ⟨v, r, rfl, _, hr⟩ := e
    simp [IsAll.length hr]
theorem IsAll.nth {h : Heap} {X : List Addr} : ∀ {ds : List Dt} {vs : List Value}, IsAll h X ds vs → ∀ {i : Nat} {d : Dt}, ds[i]? = some d → ∃ v, vs[i]? = some v ∧ Is h X d v
  | [], _, _, i, d, e => by simp at e
  | d :: ds, vs, a, i, d', e => by
    simp only [IsAll] at a
    obtain ⟨v, r, rfl, hv, hr⟩ := a
    cases i with
    | zero => simp at e; subst e; exact ⟨v, by simp, hv⟩
    | succ i => simpa using IsAll.nth hr (by simpa using e)
theorem IsAll.nth' {h : Heap} {X : List Addr} : ∀ {ds : List Dt} {vs : List Value}, IsAll h X ds vs → ∀ {i : Nat} {v : Value}, vs[i]? = some v → ∃ d, ds[i]? = some d ∧ Is h X d v
  | [], vs, a, i, v, e => by simp only [IsAll] at a; subst a; simp at e
  | d :: ds, vs, a, i, v', e => by
    simp only [IsAll] at a
    obtain ⟨v, r, rfl, hv, hr⟩ := a
    cases i with
    | zero => simp at e; subst e; exact ⟨d, by simp, hv⟩
    | succ i => simpa using IsAll.nth' hr (by simpa using e)
theorem IsAll.append {h : Heap} {X : List Addr} : ∀ {ds es : List Dt} {vs us : List Value}, IsAll h X ds vs → IsAll h X es us → IsAll h X (ds ++ es) (vs ++ us)
  | [], _, _, _, a, b => by simp only [IsAll] at a; subst a; exact b
  | d :: ds, _, _, _, a, b => by
    simp only [IsAll] at a
    obtain ⟨v, r, rfl, hv, hr⟩ := a
    simp only [List.cons_append, IsAll]
    exact ⟨v, _, rfl, hv, IsAll.append hr b⟩
theorem IsAll.of {h : Heap} {X : List Addr} : ∀ {ds : List Dt} {vs : List Value}, vs.length = ds.length → (∀ (i : Nat) (d : Dt) (v : Value), ds[i]? = some d → vs[i]? = some v → Is h X d v) → IsAll h X ds vs
  | [], vs, e, _ => by simp only [IsAll]; exact List.length_eq_zero_iff.mp e
  | d :: ds, [], e, _ => by simp at e
  | d :: ds, v :: vs, e, H => by
    simp only [IsAll]
    exact ⟨v, vs, rfl, H 0 d v rfl rfl, IsAll.of (by simpa using e) fun i d v a b => H (i + 1) d v a b⟩

mutual
/-- what a heap bears stays, when all its objects stay -/
theorem Is.ext {h h' : Heap} {X X' : List Addr} (k : ∀ b o, b ∉ X → h.get? b = some o → h'.get? b = some o ∧ b ∉ X') : ∀ {d : Dt} {v : Value}, Is h X d v → Is h' X' d v
  | .none, v, e => by simp only [Is] at *; exact e
  | .bool b, v, e => by simp only [Is] at *; exact e
  | .int i, v, e => by simp only [Is] at *; exact e
  | .str i, v, e => by simp only [Is] at *; exact e
  | .bytes i, v, e => by simp only [Is] at *; exact e
  | .tup ds, v, e => by
    simp only [Is] at *
    obtain ⟨a, vs, rfl, ha, ⟨o, ho, r⟩, hs⟩ := e
    exact ⟨a, vs, rfl, (k a o ha ho).2, ⟨o, (k a o ha ho).1, r⟩, IsAll.ext k hs⟩
  | .lst ds, v, e => by
    simp only [Is] at *
    obtain ⟨a, vs, rfl, ha, ⟨n, ho⟩, hs⟩ := e
    exact ⟨a, vs, rfl, (k a _ ha ho).2, ⟨n, (k a _ ha ho).1⟩, IsAll.ext k hs⟩
  | .own a, v, e => by simp only [Is] at *; exact e
  | .inst ds, v, e => by
    simp only [Is] at *
    obtain ⟨a, dx, m, vs, rfl, ha, hdx, ⟨⟨n, ho, hon⟩, hne, ⟨o2, es, ep, ho2, r⟩, h0⟩, hm, hs⟩ := e
    exact ⟨a, dx, m, vs, rfl, (k a _ ha ho).2, (k dx _ hdx ho2).2, ⟨⟨n, (k a _ ha ho).1, hon⟩, hne, ⟨o2, es, ep, (k dx _ hdx ho2).1, r⟩, h0⟩, hm, IsAll.ext k hs⟩
theorem IsAll.ext {h h' : Heap} {X X' : List Addr} (k : ∀ b o, b ∉ X → h.get? b = some o → h'.get? b = some o ∧ b ∉ X') : ∀ {ds : List Dt} {vs : List Value}, IsAll h X ds vs → IsAll h' X' ds vs
  | [], vs, e => by simp only [IsAll] at *; exact e
  | d :: ds, vs, e => by
    simp only [IsAll] at *
    obtain ⟨v, r, rfl, hv, hr⟩ := e
    exact ⟨v, r, rfl, Is.ext k hv, IsAll.ext k hr⟩
end
theorem Is.keep {h h' : Heap} {X : List Addr} {d : Dt} {v : Value} (e : Is h X d v) (k : Ext h h') : Is h' X d v := e.ext fun b o hb ho => ⟨k b o ho, hb⟩
theorem IsAll.keep {h h' : Heap} {X : List Addr} {d : List Dt} {v : List Value} (e : IsAll h X d v) (k : Ext h h') : IsAll h' X d v := e.ext fun b o hb ho => ⟨k b o ho, hb⟩
/-- an address that the heap does not hold may be left out too -/
theorem Is.out {h h' : Heap} {X : List Addr} {a : Addr} {d : Dt} {v : Value} (e : Is h X d v) (k : Ext h h') (ha : h.get? a = none) : Is h' (a :: X) d v :=
  e.ext fun b o hb ho => ⟨k b o ho, by rintro (_ | ⟨_, hm⟩) <;> first | (rw [ha] at ho; cases ho) | exact hb hm⟩
theorem Is.less {h : Heap} {X X' : List Addr} {d : Dt} {v : Value} (e : Is h X d v) (k : ∀ a ∈ X', a ∈ X) : Is h X' d v := e.ext fun b o hb ho => ⟨ho, fun hm => hb (k b hm)⟩
theorem IsAll.less {h : Heap} {X X' : List Addr} {d : List Dt} {v : List Value} (e : IsAll h X d v) (k : ∀ a ∈ X', a ∈ X) : IsAll h X' d v := e.ext fun b o hb ho => ⟨ho, fun hm => hb (k b hm)⟩
/-- a change at an address that is left out -/
theorem Is.but {h h' : Heap} {X : List Addr} {a : Addr} {d : Dt} {v : Value} (e : Is h X d v) (hs : Heap.SameBut a h h') (ha : a ∈ X) : Is h' X d v :=
  e.ext fun b o hb ho => ⟨hs.extBut b o (by rintro rfl; exact hb ha) ho, hb⟩

/-- nothing that stood is changed -/
structure Kp (s s' : Shared) : Prop where
  k : Keeps s s'
  tk : s.toks ≤ s'.toks
theorem Kp.refl (s : Shared) : Kp s s := ⟨⟨s.heap, s.toks, rfl, fun _ _ e => e⟩, Nat.le_refl _⟩
theorem Kp.trans {s s' s'' : Shared} (a : Kp s s') (b : Kp s' s'') : Kp s s'' := by
  have tk := Nat.le_trans a.tk b.tk
  obtain ⟨⟨h, t, rfl, k⟩, _⟩ := a
  obtain ⟨⟨h2, t2, rfl, k2⟩, _⟩ := b
  exact ⟨⟨h2, t2, rfl, fun b o e => k2 b o (k b o e)⟩, tk⟩
theorem Kp.ext {s s' : Shared} (a : Kp s s') : Ext s.heap s'.heap := by
  obtain ⟨⟨h, t, rfl, k⟩, _⟩ := a
  exact k
theorem Kp.tok (s : Shared) (t : Tok) (ht : s.toks ≤ t := by first | exact Nat.le_succ _ | exact Nat.le_refl _ | omega) : Kp s { s with toks := t } := ⟨⟨s.heap, t, rfl, fun _ _ e => e⟩, ht⟩
theorem Kp.push (s : Shared) (o : Obj) : Kp s { s with heap := s.heap.push o } := ⟨⟨s.heap.push o, s.toks, rfl, fun _ _ e => Heap.get?_push_of_some _ e⟩, Nat.le_refl _⟩
theorem Kp.mk' {s : Shared} {h : Heap} {t : Tok} (k : Ext s.heap h) (ht : s.toks ≤ t := by first | exact Nat.le_refl _ | exact Nat.le_succ _ | omega) : Kp s { s with heap := h, toks := t } := ⟨⟨h, t, rfl, k⟩, ht⟩
/-- the count of tokens never falls: no need to show it -/
theorem wpKp {α : Type} {w : World} {A : Around} {t : Sem α} {s : Shared} {R : α → Shared → Prop} (h : wpAny (model pw w) A t (fun v s' => Keeps s s' ∧ R v s') (fun _ _ => False) s) : wpAny (model pw w) A t (fun v s' => Kp s s' ∧ R v s') (fun _ _ => False) s :=
  wpAny_mono (wpAny_toks h) (fun _ _ ⟨a, b, c⟩ => ⟨⟨b, a⟩, c⟩) fun _ _ x => x.2.elim
theorem kq (s : Shared) (t : Tok) : Keeps s { s with toks := t } := ⟨s.heap, t, rfl, fun _ _ e => e⟩
theorem kqh {s : Shared} {h : Heap} {t : Tok} (k : Ext s.heap h) : Keeps s { s with heap := h, toks := t } := ⟨h, t, rfl, k⟩

/-! ## names -/
noncomputable def VarIs (e : Env) (h : Heap) (x : Str) (v : Value) : Prop :=
  (e.kindOf x = some .local ∧ ∃ m, h.Ns e.locals m ∧ m x = some v) ∨
  ((e.kindOf x = some .cell ∨ e.kindOf x = some .free) ∧ (x == ("__classdict__" : Str)) = false ∧ ∃ c, e.cells.lookup x = some c ∧ h.IsCell c (some v))
theorem VarIs.keep {e : Env} {h h' : Heap} {x : Str} {v : Value} (a : VarIs e h x v) (k : Ext h h') : VarIs e h' x v := by
  rcases a with ⟨a, m, b, c⟩ | ⟨a, b, c, d, f⟩
  · exact .inl ⟨a, m, b.keeps k, c⟩
  · exact .inr ⟨a, b, c, d, f.keeps k⟩
theorem VarIs.load {w : World} {A : Around} {e : Env} {s : Shared} {x : Str} {v : Value} {Q : Value → Shared → Prop} {E : Value → Shared → Prop} (a : VarIs e s.heap x v) (hk : e.scope.kind = .function) (h : Q v s) :
    wpAny (model pw w) A (loadName e x) Q E s := by
  rcases a with ⟨a, m, b, c⟩ | ⟨a | a, b, c, d, f⟩
  · exact wpAny_loadName_local hk a b c h
  · exact wpAny_loadName_cell hk a d f h
  · exact wpAny_loadName_free hk a d f h b

/-! ## the world: what the top has left -/
noncomputable def Wd (w : World) (h : Heap) : Prop := ∀ a o, (KK w.params).lookup a = some o → h.get? a = some o
theorem Wd.keep {w : World} {h h' : Heap} (a : Wd w h) (k : Ext h h') : Wd w h' := fun b o e => k b o (a b o e)

theorem ns_of {h : Heap} {a : Addr} {c : Value} {d : Option Addr} {es : List DictEntry} {n : Nat} {sl : Array (Option Value)} (ho : h.get? a = some ⟨c, d, .dict es.toArray n, sl⟩)
    (hk : es.all (fun e => match e.key with | .str _ _ => true | _ => false) = true) : h.Ns a (fun x => nsFind es.toArray x) := by
  refine ⟨_, es.toArray, n, ho, rfl, fun e he => ?_, fun _ => rfl⟩
  have := List.all_eq_true.mp hk e (by simpa using he)
  cases hkey : e.key <;> rw [hkey] at this <;> first | exact ⟨_, _, rfl⟩ | cases this

noncomputable def entriesOf (o : Obj) : List DictEntry := match o.data with
  | .dict es _ => es.toList
  | _ => []
noncomputable def mgl (P : Params) (x : Str) : Option Value := nsFind (entriesOf (o3 P)).toArray x
noncomputable def mbl (P : Params) (x : Str) : Option Value := nsFind (entriesOf (boot_o_0 P)).toArray x
theorem Wd.glob {w : World} {h : Heap} (a : Wd w h) : h.Ns mainGlobals (mgl w.params) := ns_of (es := entriesOf (o3 w.params)) (a 3 _ rfl) (by rfl)
theorem Wd.blt {w : World} {h : Heap} (a : Wd w h) : h.Ns builtinsNs (mbl w.params) := ns_of (es := entriesOf (boot_o_0 w.params)) (a 0 _ rfl) (by rfl)
theorem Wd.nolimit {w : World} {h : Heap} (a : Wd w h) : h.NoLimit := ⟨fun x => nsFind #[] x, ns_of (es := []) (a 2 _ rfl) rfl, rfl⟩

/-! ## room on the stack -/
structure Room (n : Nat) (A : Around) : Prop where
  hd : A.handled = none
  dp : A.depth + n < recursionLimit
  un : A.units + 8 * n < cLine
theorem Room.less {n m : Nat} {A : Around} (r : Room n A) (h : m ≤ n := by omega) : Room m A := ⟨r.hd, by have := r.dp; omega, by have := r.un; omega⟩
theorem Room.in1 {n : Nat} {A : Around} (r : Room (n + 1) A) : Room n A.in1 := ⟨r.hd, by have := r.dp; show A.depth + n < _; omega, by have := r.un; show A.units + 1 + 8 * n < _; omega⟩
theorem Room.deeper {n : Nat} {A : Around} {e : Env} (r : Room (n + 1) A) : Room n (A.deeper e) := ⟨r.hd, by have := r.dp; show A.depth + 1 + n < _; omega, by have := r.un; show A.units + 3 + 8 * n < _; omega⟩

/-! ## the context of an expression -/
noncomputable abbrev Owns := List (Addr × List Dt)
structure Cx (w : World) (e : Env) (X : List Addr) (Ow : Owns) (Γ : List (Str × Dt)) (s : Shared) : Prop where
  wd : Wd w s.heap
  xin : ∀ a ∈ X, ∃ o, s.heap.get? a = some o
  ow : ∀ p ∈ Ow, p.1 ∈ X ∧ ∃ vs, s.heap.PlainList p.1 (List.toArray vs) ∧ IsAll s.heap X p.2 vs
  vars : ∀ p ∈ Γ, ∃ v, VarIs e s.heap p.1 v ∧ Is s.heap X p.2 v
  cl : ∀ p ∈ e.cells, ∃ v, s.heap.IsCell p.2 v
  cx : ∀ p ∈ e.cells, p.2 ∈ X
  ap : e.cells.Pairwise fun x y => x.2 ≠ y.2
  wc : ∀ p ∈ e.cells, (KK w.params).lookup p.2 = none
  tk : 0 < s.toks
theorem Cx.keep {w : World} {e : Env} {X : List Addr} {Ow : Owns} {Γ : List (Str × Dt)} {s s' : Shared} (c : Cx w e X Ow Γ s) (k : Kp s s') : Cx w e X Ow Γ s' where
  wd := c.wd.keep k.ext
  xin := fun a ha => let ⟨o, h⟩ := c.xin a ha; ⟨o, k.ext a o h⟩
  ow := fun p hp => let ⟨a, vs, b, d⟩ := c.ow p hp; ⟨a, vs, b.at fun o h => k.ext _ o h, d.keep k.ext⟩
  vars := fun p hp => let ⟨v, a, b⟩ := c.vars p hp; ⟨v, a.keep k.ext, b.keep k.ext⟩
  cl := fun p hp => let ⟨v, h⟩ := c.cl p hp; ⟨v, h.keeps k.ext⟩
  cx := c.cx
  ap := c.ap
  wc := c.wc
  tk := Nat.lt_of_lt_of_le c.tk k.tk

noncomputable abbrev Xin (X : List Addr) (s : Shared) : Prop := ∀ a ∈ X, ∃ o, s.heap.get? a = some o
theorem Xin.keep {X : List Addr} {s s' : Shared} (c : Xin X s) (k : Kp s s') : Xin X s' := fun a ha => let ⟨o, h⟩ := c a ha; ⟨o, k.ext a o h⟩
theorem Xin.new {X : List Addr} {s : Shared} (c : Xin X s) : s.heap.objs.size ∉ X := fun h => by
  obtain ⟨o, e⟩ := c _ h
  exact absurd (Heap.lt_size e) (Nat.lt_irrefl _)

noncomputable abbrev Bot : Value → Shared → Prop := fun _ _ => False
/-- what an expression gives: a datum; nothing that stood is changed -/
structure Ev (w : World) (A : Around) (e : Env) (X : List Addr) (Ow : Owns) (Γ : List (Str × Dt)) (ex : Expr) (d : Dt) : Prop where
  h : ∀ s, Cx w e X Ow Γ s → wpAny (model pw w) A (eval ex e) (fun v s' => Kp s s' ∧ Is s'.heap X d v) Bot s
structure EvAll (w : World) (A : Around) (e : Env) (X : List Addr) (Ow : Owns) (Γ : List (Str × Dt)) (pos : Pos) (es : List Expr) (ds : List Dt) : Prop where
  h : ∀ s, Cx w e X Ow Γ s → wpAny (model pw w) A (spliced (backTo pos (starEach es e))) (fun vs s' => Kp s s' ∧ IsAll s'.heap X ds vs) Bot s
structure EvT (w : World) (A : Around) (e : Env) (X : List Addr) (Ow : Owns) (Γ : List (Str × Dt)) (ex : Expr) (b : Bool) : Prop where
  h : ∀ s, Cx w e X Ow Γ s → wpAny (model pw w) A (isTrue ex e (eval ex e)) (fun c s' => Kp s s' ∧ c = b) Bot s
/-- an operation on values that stand -/
noncomputable def Op1 (w : World) (A : Around) (X : List Addr) (t : Value → Sem Value) (d₁ d : Dt) : Prop :=
  ∀ s a, 0 < s.toks → Wd w s.heap → Xin X s → Is s.heap X d₁ a → wpAny (model pw w) A (t a) (fun v s' => Kp s s' ∧ Is s'.heap X d v) Bot s
structure Op2 (w : World) (A : Around) (X : List Addr) (t : Value → Value → Sem Value) (d₁ d₂ d : Dt) : Prop where
  h : ∀ s a b, 0 < s.toks → Wd w s.heap → Xin X s → Is s.heap X d₁ a → Is s.heap X d₂ b → wpAny (model pw w) A (t a b) (fun v s' => Kp s s' ∧ Is s'.heap X d v) Bot s

/-- the judgement, closed: nothing may look into it -/
structure Wp {α : Type} (w : World) (A : Around) (t : Sem α) (Q : α → Shared → Prop) (E : Value → Shared → Prop) (s : Shared) : Prop where
  p : wpAny (model pw w) A t Q E s
theorem wpb {α : Type} {w : World} {A : Around} {t : Sem α} {Q Q' : α → Shared → Prop} {E : Value → Shared → Prop} {s : Shared} (h : wpAny (model pw w) A t Q Bot s) (hq : ∀ a s', Q a s' → Q' a s') : wpAny (model pw w) A t Q' E s :=
  wpAny_mono h hq fun _ _ x => x.elim

section
variable {w : World} {A : Around} {e : Env} {X : List Addr} {Ow : Owns} {Γ : List (Str × Dt)}

theorem Ev.use {ex : Expr} {d : Dt} {s : Shared} {Q : Value → Shared → Prop} {E : Value → Shared → Prop} (h : Ev w A e X Ow Γ ex d) (c : Cx w e X Ow Γ s)
    (k : ∀ v s', Kp s s' → Cx w e X Ow Γ s' → Is s'.heap X d v → Q v s') : wpAny (model pw w) A (eval ex e) Q E s :=
  wpb (h.h s c) fun v s' ⟨a, b⟩ => k v s' a (c.keep a) b

/-! names and constants -/
theorem Ev.name {x : Str} {d : Dt} {p : Pos} (hk : e.scope.kind = .function) (hm : (x, d) ∈ Γ) (hd : (x == ("__debug__" : Str)) = false := by rfl) : Ev w A e X Ow Γ (.Name x p) d := .mk fun s c => by
  obtain ⟨v, a, b⟩ := c.vars _ hm
  exact wpAny_Name (a.load hk ⟨Kp.refl s, b⟩) hd
theorem Ev.int {i : Int} {k : Nat} {p : Pos} : Ev w A e X Ow Γ (.Constant (.int i) k p) (.int i) := .mk fun s c => wpAny_Constant_int ⟨Kp.tok _ _, by simp only [Is]; exact ⟨_, rfl⟩⟩
theorem Ev.str {x : Str} {k : Nat} {p : Pos} : Ev w A e X Ow Γ (.Constant (.str x) k p) (.str x) := .mk fun s c => wpAny_Constant_str ⟨Kp.tok _ _, by simp only [Is]; exact ⟨_, rfl⟩⟩
theorem Ev.none {k : Nat} {p : Pos} : Ev w A e X Ow Γ (.Constant .none k p) .none := .mk fun s c => wpAny_Constant_none ⟨Kp.refl _, by simp only [Is]⟩
theorem Ev.bool {b : Bool} {k : Nat} {p : Pos} : Ev w A e X Ow Γ (.Constant (.bool b) k p) (.bool b) := .mk fun s c => wpAny_Constant_bool ⟨Kp.refl _, by simp only [Is]⟩

/-! operators -/
theorem Ev.bin {l r : Expr} {op : Operator} {p : Pos} {d₁ d₂ d : Dt} (o : Op2 w A X (binaryOp op) d₁ d₂ d) (hl : Ev w A e X Ow Γ l d₁) (hr : Ev w A e X Ow Γ r d₂) : Ev w A e X Ow Γ (.BinOp l op r p) d := .mk fun s c =>
  wpAny_BinOp (hl.use c fun a s₁ k₁ c₁ i₁ => hr.use c₁ fun b s₂ k₂ c₂ i₂ => wpb (o.h s₂ a b c₂.tk c₂.wd c₂.xin (i₁.keep k₂.ext) i₂) fun v s₃ ⟨k₃, i₃⟩ => ⟨(k₁.trans k₂).trans k₃, i₃⟩)
theorem Ev.cmp {l r : Expr} {op : CmpOp} {p : Pos} {d₁ d₂ d : Dt} (o : Op2 w A X (compareOp op) d₁ d₂ d) (hl : Ev w A e X Ow Γ l d₁) (hr : Ev w A e X Ow Γ r d₂) (hm : behindInMarks op r = false := by rfl) : Ev w A e X Ow Γ (.Compare l [op] [r] p) d := .mk fun s c =>
  wpAny_Compare1 (hl.use c fun a s₁ k₁ c₁ i₁ => hr.use c₁ fun b s₂ k₂ c₂ i₂ => wpb (o.h s₂ a b c₂.tk c₂.wd c₂.xin (i₁.keep k₂.ext) i₂) fun v s₃ ⟨k₃, i₃⟩ => ⟨(k₁.trans k₂).trans k₃, i₃⟩) hm
theorem Ev.ife {t b o : Expr} {p : Pos} {c : Bool} {d : Dt} (ht : EvT w A e X Ow Γ t c) (hb : c = true → Ev w A e X Ow Γ b d) (ho : c = false → Ev w A e X Ow Γ o d) : Ev w A e X Ow Γ (.IfExp t b o p) d := .mk fun s cx =>
  wpAny_IfExp (wpb (ht.h s cx) fun v s₁ ⟨k, hv⟩ => by
    subst hv
    cases v with
    | true => exact (hb rfl).use (cx.keep k) fun v s₂ k₂ c₂ i₂ => ⟨k.trans k₂, i₂⟩
    | false => exact (ho rfl).use (cx.keep k) fun v s₂ k₂ c₂ i₂ => ⟨k.trans k₂, i₂⟩)
theorem Op2.add {i j : Int} : Op2 w A X (binaryOp .Add) (.int i) (.int j) (.int (i + j)) := .mk fun s a b _ _ _ h₁ h₂ => by
  simp only [Is] at h₁ h₂; obtain ⟨t, rfl⟩ := h₁; obtain ⟨u, rfl⟩ := h₂
  exact PyProof.Rows.add_int ⟨Kp.tok _ _, by simp only [Is]; exact ⟨_, rfl⟩⟩
theorem Op2.sub {i j : Int} : Op2 w A X (binaryOp .Sub) (.int i) (.int j) (.int (i - j)) := .mk fun s a b _ _ _ h₁ h₂ => by
  simp only [Is] at h₁ h₂; obtain ⟨t, rfl⟩ := h₁; obtain ⟨u, rfl⟩ := h₂
  exact PyProof.Rows.sub_int ⟨Kp.tok _ _, by simp only [Is]; exact ⟨_, rfl⟩⟩
theorem Op2.mod {i j : Int} (h : j ≠ 0) : Op2 w A X (binaryOp .Mod) (.int i) (.int j) (.int (i.fmod j)) := .mk fun s a b _ _ _ h₁ h₂ => by
  simp only [Is] at h₁ h₂; obtain ⟨t, rfl⟩ := h₁; obtain ⟨u, rfl⟩ := h₂
  exact PyProof.Rows.mod_int h ⟨Kp.tok _ _, by simp only [Is]; exact ⟨_, rfl⟩⟩
theorem Op2.div {i j : Int} (h : j ≠ 0) (hj : j.natAbs < 1073741824) : Op2 w A X (binaryOp .FloorDiv) (.int i) (.int j) (.int (i.fdiv j)) := .mk fun s a b _ _ _ h₁ h₂ => by
  simp only [Is] at h₁ h₂; obtain ⟨t, rfl⟩ := h₁; obtain ⟨u, rfl⟩ := h₂
  exact PyProof.Rows.floordiv_int h ⟨Kp.tok _ _, by simp only [Is]; exact ⟨_, rfl⟩⟩ (.inl (PyProof.noPylong_small hj))
theorem Op2.and {i j : Int} : Op2 w A X (binaryOp .BitAnd) (.int i) (.int j) (.int (Builtin.bitAnd i j)) := .mk fun s a b _ _ _ h₁ h₂ => by
  simp only [Is] at h₁ h₂; obtain ⟨t, rfl⟩ := h₁; obtain ⟨u, rfl⟩ := h₂
  exact PyProof.Rows.and_int ⟨Kp.tok _ _, by simp only [Is]; exact ⟨_, rfl⟩⟩
theorem Op2.or {i j : Int} : Op2 w A X (binaryOp .BitOr) (.int i) (.int j) (.int (Builtin.bitOr i j)) := .mk fun s a b _ _ _ h₁ h₂ => by
  simp only [Is] at h₁ h₂; obtain ⟨t, rfl⟩ := h₁; obtain ⟨u, rfl⟩ := h₂
  exact PyProof.Rows.or_int ⟨Kp.tok _ _, by simp only [Is]; exact ⟨_, rfl⟩⟩
theorem Op2.shr {i j : Int} (h : 0 ≤ j) : Op2 w A X (binaryOp .RShift) (.int i) (.int j) (.int (i.fdiv (2 ^ j.toNat))) := .mk fun s a b _ _ _ h₁ h₂ => by
  simp only [Is] at h₁ h₂; obtain ⟨t, rfl⟩ := h₁; obtain ⟨u, rfl⟩ := h₂
  exact PyProof.Rows.rshift_int h ⟨Kp.tok _ _, by simp only [Is]; exact ⟨_, rfl⟩⟩
theorem Op2.shl {i j : Int} (h : 0 ≤ j) (hs : (Builtin.Int.intBits i : Int) + j ≤ 2 ^ 27) : Op2 w A X (binaryOp .LShift) (.int i) (.int j) (.int (i * 2 ^ j.toNat)) := .mk fun s a b _ _ _ h₁ h₂ => by
  simp only [Is] at h₁ h₂; obtain ⟨t, rfl⟩ := h₁; obtain ⟨u, rfl⟩ := h₂
  exact PyProof.Rows.lshift_int h hs ⟨Kp.tok _ _, by simp only [Is]; exact ⟨_, rfl⟩⟩
theorem Op2.lt {i j : Int} : Op2 w A X (compareOp .Lt) (.int i) (.int j) (.bool (decide (i < j))) := .mk fun s a b _ _ _ h₁ h₂ => by
  simp only [Is] at h₁ h₂; obtain ⟨t, rfl⟩ := h₁; obtain ⟨u, rfl⟩ := h₂
  exact PyProof.Rows.lt_int ⟨Kp.refl _, by simp only [Is]⟩
theorem Op2.eqi {i j : Int} : Op2 w A X (compareOp .Eq) (.int i) (.int j) (.bool (i == j)) := .mk fun s a b _ _ _ h₁ h₂ => by
  simp only [Is] at h₁ h₂; obtain ⟨t, rfl⟩ := h₁; obtain ⟨u, rfl⟩ := h₂
  exact PyProof.Rows.eq_int ⟨Kp.refl _, by simp only [Is]⟩
theorem Op2.eqs {x y : Str} : Op2 w A X (compareOp .Eq) (.str x) (.str y) (.bool (x == y)) := .mk fun s a b _ _ _ h₁ h₂ => by
  simp only [Is] at h₁ h₂; obtain ⟨t, rfl⟩ := h₁; obtain ⟨u, rfl⟩ := h₂
  exact PyProof.Rows.eq_str ⟨Kp.refl _, by simp only [Is]⟩
theorem Op2.cat {x y : Str} (hs : x.length + y.length ≤ sizeLine) : Op2 w A X (binaryOp .Add) (.str x) (.str y) (.str (x ++ y)) := .mk fun s a b _ _ _ h₁ h₂ => by
  simp only [Is] at h₁ h₂; obtain ⟨t, rfl⟩ := h₁; obtain ⟨u, rfl⟩ := h₂
  exact wpKp (PyProof.Rows.add_str (fun t' tk => ⟨kq _ _, by simp only [Is]; exact ⟨_, rfl⟩⟩) hs)

/-! displays -/
theorem EvAll.nil {pos : Pos} : EvAll w A e X Ow Γ pos [] [] := .mk fun s c => wpAny_items_nil ⟨Kp.refl s, by simp only [IsAll]⟩
theorem EvAll.cons {pos : Pos} {ex : Expr} {rest : List Expr} {d : Dt} {ds : List Dt} (h : Ev w A e X Ow Γ ex d) (t : EvAll w A e X Ow Γ pos rest ds)
    (he : starEach (ex :: rest) e = (false, eval ex e) :: starEach rest e := by rfl) : EvAll w A e X Ow Γ pos (ex :: rest) (d :: ds) := .mk fun s c =>
  wpAny_items_cons (h.use c fun v s₁ k₁ c₁ i₁ => wpb (t.h s₁ c₁) fun vs s₂ ⟨k₂, i₂⟩ => ⟨k₁.trans k₂, by simp only [IsAll]; exact ⟨v, vs, rfl, i₁.keep k₂.ext, i₂⟩⟩) he
theorem get_push (h : Heap) (o : Obj) (hf : o.isFreed = false := by rfl) : (h.push o).get? h.objs.size = some o := Heap.get?_push_size _ hf
theorem Is.newTup {s : Shared} {ds : List Dt} {vs : List Value} (x : Xin X s) (i : IsAll s.heap X ds vs) : Is (s.heap.push { cls := .type "tuple", data := .seq vs.toArray }) X (.tup ds) (.ref s.heap.objs.size) := by
  simp only [Is]
  exact ⟨_, vs, rfl, x.new, ⟨_, get_push _ _, rfl, _, rfl⟩, i.keep fun b o h => Heap.get?_push_of_some _ h⟩
theorem Is.newLst {s : Shared} {ds : List Dt} {vs : List Value} (x : Xin X s) (i : IsAll s.heap X ds vs) : Is (s.heap.push { cls := .type "list", data := .seq vs.toArray }) X (.lst ds) (.ref s.heap.objs.size) := by
  simp only [Is]
  exact ⟨_, vs, rfl, x.new, ⟨_, get_push _ _⟩, i.keep fun b o h => Heap.get?_push_of_some _ h⟩
theorem Ev.tup {es : List Expr} {k : Nat} {p : Pos} {ds : List Dt} (h : EvAll w A e X Ow Γ p es ds) (hs : ds.length ≤ sizeLine) : Ev w A e X Ow Γ (.Tuple es k p) (.tup ds) := .mk fun s c =>
  wpAny_Tuple (wpb (h.h s c) fun vs s₁ ⟨k₁, i₁⟩ => ⟨by rw [i₁.length]; exact hs, k₁.trans (Kp.push _ _), Is.newTup (c.keep k₁).xin i₁⟩)
theorem Ev.lst {es : List Expr} {p : Pos} {ds : List Dt} (h : EvAll w A e X Ow Γ p es ds) (hs : ds.length ≤ sizeLine) : Ev w A e X Ow Γ (.List es p) (.lst ds) := .mk fun s c =>
  wpAny_List (wpb (h.h s c) fun vs s₁ ⟨k₁, i₁⟩ => ⟨by rw [i₁.length]; exact hs, k₁.trans (Kp.push _ _), Is.newLst (c.keep k₁).xin i₁⟩)
end

end Mine

namespace Mine
open PySem PySem.W PyProof.Rows

/-! ## a tree that draws a token on every way -/
noncomputable def Dr {α : Type} : Sem α → Prop
  | .pure _ => False
  | .raise _ | .unsupported _ | .finish _ | .register _ _ | .yield .. | .fork .. | .await .. | .fresh _ => True
  | .rule _ k | .at _ k | .point _ k | .update _ _ _ k => Dr (k ())
  | .load _ _ k => ∀ o, Dr (k o)
  | .loadIfAlive _ k => ∀ o, Dr (k o)
  | .alloc _ k => ∀ a, Dr (k a)
  | .ask k => ∀ a, Dr (k a)
  | .choose _ _ k => ∀ a, Dr (k a)
  | .os _ _ k => ∀ a, Dr (k a)
  | .call _ _ _ _ k => ∀ r, Dr (k r)
  | .handled _ k => ∀ r, Dr (k r)
  | .genState _ k => ∀ r, Dr (k r)
  | .newGen _ k => ∀ r, Dr (k r)
  | .resume _ _ _ k => ∀ r, Dr (k r)
  | .stack k => ∀ r, Dr (k r)
  | .thread k => ∀ r, Dr (k r)
theorem Dr.right {α β : Type} {f : α → Sem β} (h : ∀ a, Dr (f a)) (t : Sem α) : Dr (t.bind f) := by
  induction t with
  | pure a => exact h a
  | raise | unsupported | finish | register | yield | fork | await | fresh => trivial
  | rule _ k ih | «at» _ k ih | point _ k ih | update _ _ _ k ih => exact ih ()
  | load _ _ k ih | loadIfAlive _ k ih | alloc _ k ih | ask k ih | choose _ _ k ih | os _ _ k ih | call _ _ _ _ k ih | handled _ k ih | genState _ k ih | newGen _ k ih | resume _ _ _ k ih | stack k ih | thread k ih => exact fun a => ih a
theorem Dr.left {α β : Type} {f : α → Sem β} {t : Sem α} (h : Dr t) : Dr (t.bind f) := by
  induction t with
  | pure a => exact h.elim
  | raise | unsupported | finish | register | yield | fork | await | fresh => trivial
  | rule _ k ih | «at» _ k ih | point _ k ih | update _ _ _ k ih => exact ih () h
  | load _ _ k ih | loadIfAlive _ k ih | alloc _ k ih | ask k ih | choose _ _ k ih | os _ _ k ih | call _ _ _ _ k ih | handled _ k ih | genState _ k ih | newGen _ k ih | resume _ _ _ k ih | stack k ih | thread k ih => exact fun a => ih a (h a)
theorem Dr.wp {α : Type} {M : Model} {Γ : Ctx} (t : Sem α) : ∀ (Q : α → Pos → Shared → Prop) (E : Value → Pos → Shared → Prop) (p : Pos) (s : Shared), Dr t → Sem.wp M Γ t Q E p s → Sem.wp M Γ t (fun a p' s' => 0 < s'.toks ∧ Q a p' s') E p s := by
  induction t with
  | pure a => intro Q E p s d h; exact d.elim
  | raise | unsupported | finish | register | yield | fork | await => intro Q E p s d h; exact h
  | fresh k ih => intro Q E p s d h; exact Sem.wp_mono _ _ _ (fun a p' s' x => ⟨Nat.lt_of_lt_of_le (Nat.succ_pos _) x.1, x.2⟩) (fun e p' s' x => x.2) _ _ (Sem.wp_toks M Γ (s.toks + 1) (k s.toks) Q E p { s with toks := s.toks + 1 } (Nat.le_refl _) h)
  | rule _ k ih | «at» _ k ih | point _ k ih => intro Q E p s d h; exact ih () Q E _ _ d h
  | update _ _ _ k ih => intro Q E p s d h; exact ⟨h.1, ih () Q E _ _ d h.2⟩
  | load _ _ k ih => intro Q E p s d h; obtain ⟨o, ho, h⟩ := h; exact ⟨o, ho, ih o Q E _ _ (d o) h⟩
  | loadIfAlive _ k ih | alloc _ k ih | ask k ih | os _ _ k ih | handled _ k ih | newGen _ k ih | stack k ih | thread k ih => intro Q E p s d h; exact ih _ Q E _ _ (d _) h
  | choose _ _ k ih => intro Q E p s d h; exact ⟨h.1, ih _ Q E _ _ (d _) h.2⟩
  | call _ _ _ _ k ih => intro Q E p s d h; obtain ⟨r, s', hr, h⟩ := h; exact ⟨r, s', hr, ih r Q E _ _ (d r) h⟩
  | genState _ k ih => intro Q E p s d h; obtain ⟨st, hs, h⟩ := h; exact ⟨st, hs, ih _ Q E _ _ (d _) h⟩
  | resume _ _ _ k ih => intro Q E p s d h; obtain ⟨res, s', hw, h⟩ := h; exact ⟨res, s', hw, ih res Q E _ _ (d _) h⟩
theorem Dr.any {α : Type} {M : Model} {A : Around} {t : Sem α} {Q : α → Shared → Prop} {E : Value → Shared → Prop} {s : Shared} (d : Dr t) (h : wpAny M A t (fun a s' => 0 < s'.toks → Q a s') E s) : wpAny M A t Q E s :=
  wpAny_mono (Q := fun a s' => 0 < s'.toks ∧ (0 < s'.toks → Q a s')) (E := E) (fun Γ p hΓ => Dr.wp t _ _ p s d (h Γ p hΓ)) (fun _ _ x => x.2 x.1) fun _ _ x => x
/-- a call's frame with one local parameter draws -/
theorem Dr.frame {scope : Scope} {globals : Addr} {n : Str} {v : Value} {qual : Str} {func : Option Addr} {code : Value} {b : Addr} (hl : scope.names.lookup n = some .local)
    (hk : (scope.kind == .class) = false) (hm : (scope.kind == .module) = false) : Dr (newFunctionEnv scope globals [] [(n, v)] qual func code none b) := by
  unfold newFunctionEnv
  refine Dr.right (fun L => ?_) _
  refine Dr.right (fun cells => ?_) _
  refine Dr.left ?_
  rw [List.forIn_cons]
  refine Dr.left ?_
  refine Dr.left ?_
  dsimp only
  rw [storeName_local (by exact hl) (by simp [hk, hm])]
  unfold nsSet
  refine Dr.right (fun h => ?_) _
  exact Dr.left trivial
end Mine

namespace Mine
open PySem PySem.W PyProof.Rows

theorem Ns.same {h : Heap} {a : Addr} {m m' : Str → Option Value} (x : h.Ns a m) (y : h.Ns a m') : m = m' := by
  obtain ⟨o, es, ep, e1, d1, _, f1⟩ := x
  obtain ⟨o', es', ep', e2, d2, _, f2⟩ := y
  rw [e1] at e2; cases e2
  rw [d1] at d2; cases d2
  funext z; rw [← f1 z, f2 z]

/-! ## a frame: a def's, a comprehension's -/
structure Fs (w : World) (e : Env) (X : List Addr) (Ow : Owns) (Γ : List (Str × Dt)) (s : Shared) : Prop extends Cx w e X Ow Γ s where
  ns : ∃ m, s.heap.Ns e.locals m
  lx : e.locals ∈ X
  wl : (KK w.params).lookup e.locals = none
/-- only the frame's own objects may have changed -/
structure Kb (e : Env) (s s' : Shared) : Prop where
  tk : s.toks ≤ s'.toks
  same : ∃ h tk, s' = { s with heap := h, toks := tk }
  keep : ∀ b o, b ≠ e.locals → (∀ p ∈ e.cells, b ≠ p.2) → s.heap.get? b = some o → s'.heap.get? b = some o

theorem SameBut.back {a b : Addr} {h h' : Heap} {o : Obj} (hs : Heap.SameBut a h h') (hb : b ≠ a) (e : h.get? b = some o) : h'.get? b = some o := (hs.2 b hb).trans e
noncomputable def upd (Γ : List (Str × Dt)) (x : Str) (d : Dt) : List (Str × Dt) := (x, d) :: Γ.filter fun p => !(p.1 == x)

section
variable {w : World} {A : Around} {s₀ : Shared} {Mu : List Addr} {e : Env} {X : List Addr} {Ow : Owns} {Γ : List (Str × Dt)} {s : Shared}
theorem Fs.kp {s' : Shared} (F : Fs w e X Ow Γ s) (k : Kp s s') : Fs w e X Ow Γ s' where
  toCx := F.toCx.keep k
  ns := let ⟨m, h⟩ := F.ns; ⟨m, h.keeps k.ext⟩
  lx := F.lx
  wl := F.wl
theorem Fs.weaken {Γ' : List (Str × Dt)} (F : Fs w e X Ow Γ s) (h : ∀ p ∈ Γ', p ∈ Γ) : Fs w e X Ow Γ' s :=
  { F with vars := fun p hp => F.vars p (h p hp) }
/-- kinds tell the frame's own objects from the lists -/
theorem Fs.ow_ne (F : Fs w e X Ow Γ s) {a : Addr} {vs : List Value} (hl : s.heap.PlainList a vs.toArray) : a ≠ e.locals ∧ ∀ p ∈ e.cells, a ≠ p.2 := by
  obtain ⟨n, hl⟩ := hl
  refine ⟨fun q => ?_, fun p hp q => ?_⟩
  · obtain ⟨m, o, es, ep, ho, hd, _⟩ := F.ns
    rw [← q, hl] at ho; cases ho; cases hd
  · obtain ⟨cv, o, ho, hd⟩ := F.cl p hp
    rw [← q, hl] at ho; cases ho; cases hd
theorem Fs.cell_ne (F : Fs w e X Ow Γ s) : ∀ p ∈ e.cells, p.2 ≠ e.locals := fun p hp q => by
  obtain ⟨cv, o, ho, hd⟩ := F.cl p hp
  obtain ⟨m, o', es, ep, ho', hd', _⟩ := F.ns
  rw [← q, ho] at ho'; cases ho'; rw [hd] at hd'; cases hd'

/-- a name of the frame is bound anew -/
theorem Fs.store {x : Str} {d : Dt} {v : Value} {Q : Unit → Shared → Prop} {E : Value → Shared → Prop} (F : Fs w e X Ow Γ s) (hk : e.scope.kind = .function) (hi : Is s.heap X d v)
    (hx : e.kindOf x = some .local ∨ (e.kindOf x = some .cell ∧ ∃ c, e.cells.lookup x = some c)) (hcd : (x == ("__classdict__" : Str)) = false := by rfl)
    (h : ∀ s', Fs w e X Ow (upd Γ x d) s' → Kb e s s' → Q () s') : wpAny (model pw w) A (storeName e x v) Q E s := by
  have wdne : ∀ {b : Addr}, (KK w.params).lookup b = none → ∀ a o, (KK w.params).lookup a = some o → a ≠ b := fun hb a o ho e => by
    rw [e, hb] at ho; cases ho
  obtain ⟨m, hm⟩ := F.ns
  rcases hx with hx | ⟨hx, c, hc⟩
  · refine wpAny_storeName_local hx hm (fun h' hn hs => h _ ?_ ⟨Nat.le_succ _, ⟨_, _, rfl⟩, fun b o hb _ ho => SameBut.back hs hb ho⟩) (by rw [hk]; rfl)
    have up : ∀ b o, b ≠ e.locals → s.heap.get? b = some o → h'.get? b = some o := fun b o hb e => SameBut.back hs hb e
    refine { wd := fun a o ho => up a o (wdne F.wl a o ho) (F.wd a o ho), xin := fun a ha => ?_, ow := fun p hp => ?_, vars := fun p hp => ?_, ns := ⟨_, hn⟩, cl := fun p hp => ?_, lx := F.lx, cx := F.cx, ap := F.ap, wc := F.wc, wl := F.wl, tk := Nat.lt_succ_of_lt F.tk }
    · by_cases q : a = e.locals
      · obtain ⟨o, _, _, ho, _⟩ := hn; exact ⟨o, q ▸ ho⟩
      · obtain ⟨o, ho⟩ := F.xin a ha; exact ⟨o, up a o q ho⟩
    · obtain ⟨a, vs, b, c⟩ := F.ow p hp
      exact ⟨a, vs, b.at fun o ho => up _ o (F.ow_ne b).1 ho, c.ext fun b o hb ho => ⟨up b o (fun q => hb (q ▸ F.lx)) ho, hb⟩⟩
    · rcases List.mem_cons.mp hp with rfl | hp
      · exact ⟨v, .inl ⟨hx, _, hn, by simp⟩, hi.but hs F.lx⟩
      · obtain ⟨hp1, hp2⟩ := List.mem_filter.mp hp
        have hne : p.1 ≠ x := by simpa using hp2
        obtain ⟨u, hv, hu⟩ := F.vars p hp1
        refine ⟨u, ?_, hu.but hs F.lx⟩
        rcases hv with ⟨a, m', b, c⟩ | ⟨a, b, cc, c, o, ho, hd⟩
        · refine .inl ⟨a, _, hn, ?_⟩
          rw [Ns.same b hm] at c
          simp only [hne, if_false]; exact c
        · exact .inr ⟨a, b, cc, c, o, up _ o (F.cell_ne _ (mem_of_lookup c)) ho, hd⟩
    · obtain ⟨cv, o, ho, hd⟩ := F.cl p hp
      exact ⟨cv, o, up _ o (F.cell_ne p hp) ho, hd⟩
  · obtain ⟨cv, hcv⟩ := F.cl _ (mem_of_lookup hc)
    have hcm := mem_of_lookup hc
    refine wpAny_storeName_cell hk hx hc hcv fun h' hn hs => h _ ?_ ⟨Nat.le_refl _, ⟨_, _, rfl⟩, fun b o _ hb ho => SameBut.back hs (hb _ hcm) ho⟩
    have up : ∀ b o, b ≠ c → s.heap.get? b = some o → h'.get? b = some o := fun b o hb e => SameBut.back hs hb e
    have hLn : e.locals ≠ c := fun q => F.cell_ne _ hcm q.symm
    refine { wd := fun a o ho => up a o (wdne (F.wc _ hcm) a o ho) (F.wd a o ho), xin := fun a ha => ?_, ow := fun p hp => ?_, vars := fun p hp => ?_, ns := ⟨m, hm.sameBut hs hLn⟩, cl := fun p hp => ?_, lx := F.lx, cx := F.cx, ap := F.ap, wc := F.wc, wl := F.wl, tk := F.tk }
    · by_cases q : a = c
      · obtain ⟨o, ho, _⟩ := hn; exact ⟨o, q ▸ ho⟩
      · obtain ⟨o, ho⟩ := F.xin a ha; exact ⟨o, up a o q ho⟩
    · obtain ⟨a, vs, b, cc⟩ := F.ow p hp
      exact ⟨a, vs, b.at fun o ho => up _ o ((F.ow_ne b).2 _ hcm) ho, cc.ext fun b o hb ho => ⟨up b o (fun q => hb (q ▸ F.cx _ hcm)) ho, hb⟩⟩
    · rcases List.mem_cons.mp hp with rfl | hp
      · exact ⟨v, .inr ⟨.inl hx, hcd, c, hc, hn⟩, hi.but hs (F.cx _ hcm)⟩
      · obtain ⟨hp1, hp2⟩ := List.mem_filter.mp hp
        have hne : p.1 ≠ x := by simpa using hp2
        obtain ⟨u, hv, hu⟩ := F.vars p hp1
        refine ⟨u, ?_, hu.but hs (F.cx _ hcm)⟩
        rcases hv with ⟨a, m', b, c'⟩ | ⟨a, b, cc, c', o, ho, hd⟩
        · exact .inl ⟨a, m', b.sameBut hs hLn, c'⟩
        · refine .inr ⟨a, b, cc, c', o, up _ o (fun q => ?_) ho, hd⟩
          subst q
          exact hne (name_of_addr F.ap (mem_of_lookup c') hcm)
    · by_cases q : p.2 = c
      · exact ⟨_, q ▸ hn⟩
      · obtain ⟨cv', o, ho, hd⟩ := F.cl p hp
        exact ⟨cv', o, up _ o q ho, hd⟩
end

/-! ## a def's frame: since s₀ only Mu may have changed -/
structure Fn (w : World) (s₀ : Shared) (Mu : List Addr) (e : Env) (X : List Addr) (Ow : Owns) (Γ : List (Str × Dt)) (s : Shared) : Prop extends Fs w e X Ow Γ s where
  tk0 : s₀.toks ≤ s.toks
  same : ∃ h tk, s = { s₀ with heap := h, toks := tk }
  keep0 : ∀ b o, b ∉ Mu → s₀.heap.get? b = some o → s.heap.get? b = some o
  lm : e.locals ∈ Mu ∧ ∀ p ∈ e.cells, p.2 ∈ Mu
  oo : ∀ p ∈ Ow, p.1 ∈ Mu ∨ s₀.heap.get? p.1 = none

section
variable {w : World} {A : Around} {s₀ : Shared} {Mu : List Addr} {e : Env} {X : List Addr} {Ow : Owns} {Γ : List (Str × Dt)} {s : Shared}
theorem Fn.kp {s' : Shared} (F : Fn w s₀ Mu e X Ow Γ s) (k : Kp s s') : Fn w s₀ Mu e X Ow Γ s' where
  toFs := F.toFs.kp k
  same := by
    obtain ⟨h, t, rfl⟩ := F.same
    obtain ⟨⟨h2, t2, rfl, k2⟩, _⟩ := k
    exact ⟨h2, t2, rfl⟩
  tk0 := Nat.le_trans F.tk0 k.tk
  keep0 := fun b o hb e => k.ext b o (F.keep0 b o hb e)
  lm := F.lm
  oo := F.oo
theorem Fn.kept (F : Fn w s₀ Mu e X Ow Γ s) (hm : ∀ a ∈ Mu, s₀.heap.get? a = none) : Kp s₀ s := by
  have k := F.keep0
  have tk := F.tk0
  obtain ⟨h, t, rfl⟩ := F.same
  exact Kp.mk' (fun b o x => k b o (fun q => by rw [hm b q] at x; cases x) x) tk
theorem Fn.weaken {Γ' : List (Str × Dt)} (F : Fn w s₀ Mu e X Ow Γ s) (h : ∀ p ∈ Γ', p ∈ Γ) : Fn w s₀ Mu e X Ow Γ' s :=
  { F with toFs := F.toFs.weaken h }
theorem Fn.store {x : Str} {d : Dt} {v : Value} {Q : Unit → Shared → Prop} {E : Value → Shared → Prop} (F : Fn w s₀ Mu e X Ow Γ s) (hk : e.scope.kind = .function) (hi : Is s.heap X d v)
    (hx : e.kindOf x = some .local ∨ (e.kindOf x = some .cell ∧ ∃ c, e.cells.lookup x = some c)) (hcd : (x == ("__classdict__" : Str)) = false := by rfl)
    (h : ∀ s', Fn w s₀ Mu e X Ow (upd Γ x d) s' → Q () s') : wpAny (model pw w) A (storeName e x v) Q E s :=
  F.toFs.store hk hi hx hcd fun s' G k => h s' (by
    obtain ⟨h, t, e0⟩ := F.same
    obtain ⟨h2, t2, e2⟩ := k.same
    exact ⟨G, Nat.le_trans F.tk0 k.tk, ⟨h2, t2, by rw [e2, e0]⟩, fun b o hb eb => k.keep b o (fun q => hb (q ▸ F.lm.1)) (fun p hp q => hb (q ▸ F.lm.2 p hp)) (F.keep0 b o hb eb), F.lm, F.oo⟩)

/-- what a frame may change -/
noncomputable def ownOf (e : Env) (Ow : Owns) : List Addr := e.locals :: (e.cells.map (·.2) ++ Ow.map (·.1))
theorem mem_ownOf {b : Addr} : b ∈ ownOf e Ow ↔ b = e.locals ∨ (∃ p ∈ e.cells, b = p.2) ∨ ∃ p ∈ Ow, b = p.1 := by
  unfold ownOf
  simp only [List.mem_cons, List.mem_append, List.mem_map]
  constructor
  · rintro (h | ⟨p, hp, rfl⟩ | ⟨p, hp, rfl⟩)
    · exact .inl h
    · exact .inr (.inl ⟨p, hp, rfl⟩)
    · exact .inr (.inr ⟨p, hp, rfl⟩)
  · rintro (h | ⟨p, hp, rfl⟩ | ⟨p, hp, rfl⟩)
    · exact .inl h
    · exact .inr (.inl ⟨p, hp, rfl⟩)
    · exact .inr (.inr ⟨p, hp, rfl⟩)
theorem Fs.own_in (F : Fs w e X Ow Γ s) {b : Addr} (h : b ∈ ownOf e Ow) : b ∈ X := by
  rcases mem_ownOf.mp h with rfl | ⟨p, hp, rfl⟩ | ⟨p, hp, rfl⟩
  · exact F.lx
  · exact F.cx p hp
  · exact (F.ow p hp).1
/-- the same frame, told from here on -/
theorem Fs.base (F : Fs w e X Ow Γ s) : Fn w s (ownOf e Ow) e X Ow Γ s :=
  ⟨F, Nat.le_refl _, ⟨s.heap, s.toks, rfl⟩, fun _ _ _ h => h, ⟨List.mem_cons_self, fun p hp => mem_ownOf.mpr (.inr (.inl ⟨p, hp, rfl⟩))⟩, fun p hp => .inl (mem_ownOf.mpr (.inr (.inr ⟨p, hp, rfl⟩)))⟩
/-- two tellings joined -/
theorem Fn.up {X' X₁ : List Addr} {Ow' Ow₁ : Owns} {Γ' Γ₁ : List (Str × Dt)} {s' : Shared} (F : Fn w s₀ Mu e X₁ Ow Γ₁ s) (G : Fn w s (ownOf e Ow) e X' Ow' Γ' s') (ho : Ow'.map (·.1) = Ow.map (·.1)) : Fn w s₀ Mu e X' Ow' Γ' s' := by
  obtain ⟨h, t, e0⟩ := F.same
  obtain ⟨h2, t2, e2⟩ := G.same
  refine ⟨G.toFs, Nat.le_trans F.tk0 G.tk0, ⟨h2, t2, by rw [e2, e0]⟩, fun b o hb eb => G.keep0 b o (fun q => ?_) (F.keep0 b o hb eb), F.lm, fun p hp => ?_⟩
  · rcases mem_ownOf.mp q with rfl | ⟨p, hp, rfl⟩ | ⟨p, hp, rfl⟩
    · exact hb F.lm.1
    · exact hb (F.lm.2 p hp)
    · rcases F.oo p hp with q | q
      · exact hb q
      · rw [q] at eb; cases eb
  · have : p.1 ∈ Ow.map (·.1) := by rw [← ho]; exact List.mem_map_of_mem hp
    obtain ⟨q, hq, hqe⟩ := List.mem_map.mp this
    rw [← hqe]; exact F.oo q hq
theorem Fs.lessX {X' : List Addr} (F : Fs w e X Ow Γ s) (h : ∀ a ∈ X', a ∈ X) (hl : e.locals ∈ X') (hc : ∀ p ∈ e.cells, p.2 ∈ X') (ho : ∀ p ∈ Ow, p.1 ∈ X') : Fs w e X' Ow Γ s where
  wd := F.wd
  xin := fun a ha => F.xin a (h a ha)
  ow := fun p hp => let ⟨_, vs, b, c⟩ := F.ow p hp; ⟨ho p hp, vs, b, c.less h⟩
  vars := fun p hp => let ⟨v, a, b⟩ := F.vars p hp; ⟨v, a, b.less h⟩
  ns := F.ns
  cl := F.cl
  lx := hl
  cx := hc
  ap := F.ap
  wc := F.wc
  wl := F.wl
  tk := F.tk

/-! statements -/
theorem Fn.assign {x : Str} {d : Dt} {ex : Expr} {px pos : Pos} {Q : Flow → Shared → Prop} {E : Value → Shared → Prop} (F : Fn w s₀ Mu e X Ow Γ s) (he : Ev w A e X Ow Γ ex d) (hk : e.scope.kind = .function)
    (hx : e.kindOf x = some .local ∨ (e.kindOf x = some .cell ∧ ∃ c, e.cells.lookup x = some c)) (h : ∀ s', Fn w s₀ Mu e X Ow (upd Γ x d) s' → Q .next s') (hcd : (x == ("__classdict__" : Str)) = false := by rfl)
    (hs : swapsWith ex (some (.Name x px)) pos.line e = pure false := by rfl) : Wp w A (exec (.Assign [.Name x px] ex pos) e) Q E s := .mk <|
  wpAny_Assign_Name (he.use F.toCx fun v s₁ k₁ c₁ i₁ => (F.kp k₁).store hk i₁ hx hcd h) hs
theorem Fn.ret {d : Dt} {ex : Expr} {pos : Pos} {Q : Flow → Shared → Prop} {E : Value → Shared → Prop} (F : Fn w s₀ Mu e X Ow Γ s) (he : Ev w A e X Ow Γ ex d)
    (h : ∀ v s', Fn w s₀ Mu e X Ow Γ s' → Is s'.heap X d v → Q (.ret v) s') : Wp w A (exec (.Return (some ex) pos) e) Q E s := .mk <|
  wpAny_Return_some (he.use F.toCx fun v s₁ k₁ c₁ i₁ => h v s₁ (F.kp k₁) i₁)
theorem Fn.if_ {t : Expr} {body orelse : List Stmt} {pos : Pos} {b : Bool} {Q : Flow → Shared → Prop} {E : Value → Shared → Prop} (F : Fn w s₀ Mu e X Ow Γ s) (ht : EvT w A e X Ow Γ t b)
    (h1 : b = true → ∀ s', Fn w s₀ Mu e X Ow Γ s' → Wp w A (execs body e) Q E s') (h2 : b = false → ∀ s', Fn w s₀ Mu e X Ow Γ s' → Wp w A (execs orelse e) Q E s') :
    Wp w A (exec (.If t body orelse pos) e) Q E s := .mk <|
  wpAny_If (wpb (ht.h s F.toCx) fun c s₁ ⟨k₁, hc⟩ => by
    subst hc
    cases c with
    | true => exact (h1 rfl _ (F.kp k₁)).p
    | false => exact (h2 rfl _ (F.kp k₁)).p)
theorem execs_cons' {st : Stmt} {rest : List Stmt} {Q : Flow → Shared → Prop} {E : Value → Shared → Prop} {s : Shared}
    (h : Wp w A (exec st e) (fun f s' => match f with | .next => Wp w A (execs rest e) Q E s' | f => Q f s') E s) : Wp w A (execs (st :: rest) e) Q E s := .mk <|
  wpAny_execs_cons (wpAny_mono h.p (fun f s' q => by cases f <;> first | exact q.p | exact q) fun _ _ x => x)
theorem execs_nil' {Q : Flow → Shared → Prop} {E : Value → Shared → Prop} {s : Shared} (h : Q .next s) : Wp w A (execs [] e) Q E s := ⟨wpAny_execs_nil h⟩
end

/-! ## a call of a def of the text -/
structure FnAt (P : Params) (fa : Addr) (fd : FuncData) (body : List Stmt) : Prop where
  lk : ∃ c d sl, (KK P).lookup fa = some ⟨c, d, .func fd, sl⟩
  cd : ∃ c o vs t, fd.code = .ref c ∧ (KK P).lookup c = some o ∧ o.data = .fields vs ∧ vs[1]? = some (.str fd.qualname t)
  bd : fd.body = .stmts body
  clo : fd.closure = []
  gl : fd.globals = mainGlobals
  bl : fd.builtins = builtinsNs
  co : fd.scope.isCoroutine = false
  gn : fd.scope.isGenerator = false
  kd : fd.scope.kind = .function
  nd : ((cellsFrom 0 fd.scope.names []).map (·.1)).Nodup

structure GEnv (e : Env) : Prop where
  g : e.globals = mainGlobals
  b : e.builtins = builtinsNs
  k : e.scope.kind = .function
theorem FnAt.genv {P : Params} {fa L : Addr} {fd : FuncData} {body : List Stmt} (f : FnAt P fa fd body) : GEnv (callEnvC fd L fa) := ⟨f.gl, f.bl, f.kd⟩

/-- the names of a new frame's cells have each one cell -/
theorem lookup_cells {names : List (Str × NameKind)} {L : Nat} (nd : ((cellsFrom 0 names []).map (·.1)).Nodup) {n : Str} {c : Addr} (hm : (n, c) ∈ cellsFrom (L + 1) names []) : (cellsFrom (L + 1) names []).lookup n = some c :=
  lookup_of_mem_nodup (cellsFrom_names names 0 (L + 1) [] [] rfl ▸ nd) hm

noncomputable def outOf (e : Env) (X : List Addr) : List Addr := e.locals :: (e.cells.map (·.2) ++ X)

theorem bindL_not {k : Str → Option NameKind} : ∀ (b : List (Str × Value)) (m : Str → Option Value) (x : Str), x ∉ b.map (·.1) → bindL k b m x = m x
  | [], _, _, _ => rfl
  | (n, u) :: r, m, x, h => by
    simp only [List.map_cons, List.mem_cons, not_or] at h
    rw [bindL, bindL_not r _ x h.2]
    split
    · simp only [h.1, if_false]
    · rfl
theorem bindL_mem {k : Str → Option NameKind} : ∀ (b : List (Str × Value)) (m : Str → Option Value), (b.map (·.1)).Nodup → ∀ x v, (x, v) ∈ b → k x = some .local → bindL k b m x = some v
  | [], _, _, x, v, h, _ => by cases h
  | (n, u) :: r, m, nd, x, v, h, hk => by
    simp only [List.map_cons, List.nodup_cons] at nd
    rw [bindL]
    rcases List.mem_cons.mp h with e | h
    · cases e
      rw [bindL_not r _ n nd.1]
      simp [hk]
    · exact bindL_mem r _ nd.2 x v h hk
theorem bindC_not {k : Str → Option NameKind} : ∀ (b : List (Str × Value)) (m : Str → Option Value) (x : Str), x ∉ b.map (·.1) → bindC k b m x = m x
  | [], _, _, _ => rfl
  | (n, u) :: r, m, x, h => by
    simp only [List.map_cons, List.mem_cons, not_or] at h
    rw [bindC, bindC_not r _ x h.2]
    split
    · rfl
    · simp only [h.1, if_false]
theorem bindC_mem {k : Str → Option NameKind} : ∀ (b : List (Str × Value)) (m : Str → Option Value), (b.map (·.1)).Nodup → ∀ x v, (x, v) ∈ b → k x ≠ some .local → bindC k b m x = some v
  | [], _, _, x, v, h, _ => by cases h
  | (n, u) :: r, m, nd, x, v, h, hk => by
    simp only [List.map_cons, List.nodup_cons] at nd
    rw [bindC]
    rcases List.mem_cons.mp h with e | h
    · cases e
      rw [bindC_not r _ n nd.1]
      simp [hk]
    · exact bindC_mem r _ nd.2 x v h hk
theorem zip_pairs {h : Heap} {X : List Addr} : ∀ (names : List Str) (ds : List Dt) (vs : List Value), IsAll h X ds vs → ∀ p ∈ names.zip ds, ∃ v, (p.1, v) ∈ names.zip vs ∧ Is h X p.2 v
  | [], _, _, _, p, hp => by simp at hp
  | _ :: _, [], _, _, p, hp => by simp at hp
  | n :: names, d :: ds, vs, a, p, hp => by
    simp only [IsAll] at a
    obtain ⟨v, r, rfl, hv, hr⟩ := a
    rw [List.zip_cons_cons] at hp ⊢
    rcases List.mem_cons.mp hp with rfl | hp
    · exact ⟨v, .head _, hv⟩
    · obtain ⟨u, h1, h2⟩ := zip_pairs names ds r hr p hp
      exact ⟨u, .tail _ h1, h2⟩

/-- as the library's, and the tokens' count does not fall -/
theorem call_cellsT {prog : Program} {w : World} {A : Around} {s : Shared} {R : Result → Shared → Prop} {a : Addr} {o : Obj} {fd : FuncData} {body : List Stmt} {vals : List Value} {binds : List (Str × Value)}
    (hroom : A.depth < recursionLimit) (ho : s.heap.get? a = some o) (hdata : o.data = .func fd) (hlim : s.heap.NoLimit) (hcd : s.heap.CodeRec fd.code fd.qualname)
    (hbody : fd.body = .stmts body) (hbind : bindArgs fd ⟨vals, []⟩ = pure binds) (hclo : fd.closure = [])
    (hkind : ∀ x ∈ binds, fd.scope.names.lookup x.1 = some .local ∨ (fd.scope.names.lookup x.1 = some .cell ∧ ((cellsFrom (s.heap.objs.size + 1) fd.scope.names []).lookup x.1).isSome = true))
    (h : ∀ s₁, s.toks ≤ s₁.toks → InCallC s (callEnvC fd s.heap.objs.size a).locals (bindL (callEnvC fd s.heap.objs.size a).kindOf binds fun _ => none) (callEnvC fd s.heap.objs.size a).cells
        (bindC (callEnvC fd s.heap.objs.size a).kindOf binds fun _ => none) s₁ →
      wpAny (model prog w) (A.deeper (callEnvC fd s.heap.objs.size a)) (execs body (callEnvC fd s.heap.objs.size a)) (fun f s' => R (.ok (.ret (match f with | .ret v => v | _ => .none))) s')
        (fun e s' => wpAny (model prog w) (A.deeper (callEnvC fd s.heap.objs.size a)) (leaving (callEnvC fd s.heap.objs.size a) e) (fun _ s'' => R (.error e) s'') (fun e' s'' => R (.error e') s'') s') s₁)
    (hco : fd.scope.isCoroutine = false) (hgen : fd.scope.isGenerator = false) (hk : fd.scope.kind = .function) :
    codeAny (model prog w) A (.call (.ref a) ⟨vals, []⟩) R s := by
  refine codeAny_call_function hroom ho hdata hco hgen hbody hcd ?_
  rw [hbind, hclo]
  refine wpAny_pure (wpAny_with_toks (Nat.le_refl _) (wpAny_newFunctionEnv_cells hk hkind fun env he s' x htk => ?_))
  subst he
  exact ⟨hlim.keeps x.toInCall.keep, codeAny_func (h s' htk x)⟩

/-- the same, where a token is drawn by the way -/
theorem call_cellsZ {prog : Program} {w : World} {A : Around} {s : Shared} {R : Result → Shared → Prop} {a : Addr} {o : Obj} {fd : FuncData} {body : List Stmt} {vals : List Value} {binds : List (Str × Value)}
    (hroom : A.depth < recursionLimit) (ho : s.heap.get? a = some o) (hdata : o.data = .func fd) (hlim : s.heap.NoLimit) (hcd : s.heap.CodeRec fd.code fd.qualname)
    (hbody : fd.body = .stmts body) (hbind : bindArgs fd ⟨vals, []⟩ = pure binds) (hclo : fd.closure = [])
    (hkind : ∀ x ∈ binds, fd.scope.names.lookup x.1 = some .local ∨ (fd.scope.names.lookup x.1 = some .cell ∧ ((cellsFrom (s.heap.objs.size + 1) fd.scope.names []).lookup x.1).isSome = true))
    (hz : 0 < s.toks ∨ Dr (newFunctionEnv fd.scope fd.globals [] binds (fd.qualname ++ ".<locals>.") (some a) fd.code none fd.builtins))
    (h : ∀ s₁, s.toks ≤ s₁.toks → 0 < s₁.toks → InCallC s (callEnvC fd s.heap.objs.size a).locals (bindL (callEnvC fd s.heap.objs.size a).kindOf binds fun _ => none) (callEnvC fd s.heap.objs.size a).cells
        (bindC (callEnvC fd s.heap.objs.size a).kindOf binds fun _ => none) s₁ →
      wpAny (model prog w) (A.deeper (callEnvC fd s.heap.objs.size a)) (execs body (callEnvC fd s.heap.objs.size a)) (fun f s' => R (.ok (.ret (match f with | .ret v => v | _ => .none))) s')
        (fun e s' => wpAny (model prog w) (A.deeper (callEnvC fd s.heap.objs.size a)) (leaving (callEnvC fd s.heap.objs.size a) e) (fun _ s'' => R (.error e) s'') (fun e' s'' => R (.error e') s'') s') s₁)
    (hco : fd.scope.isCoroutine = false) (hgen : fd.scope.isGenerator = false) (hk : fd.scope.kind = .function) :
    codeAny (model prog w) A (.call (.ref a) ⟨vals, []⟩) R s := by
  refine codeAny_call_function hroom ho hdata hco hgen hbody hcd ?_
  rw [hbind, hclo]
  refine wpAny_pure (wpAny_with_toks (Nat.le_refl _) ?_)
  rcases hz with hz | hz
  · refine wpAny_newFunctionEnv_cells hk hkind fun env he s' x htk => ?_
    subst he
    exact ⟨hlim.keeps x.toInCall.keep, codeAny_func (h s' htk (Nat.lt_of_lt_of_le hz htk) x)⟩
  · refine Dr.any hz (wpAny_newFunctionEnv_cells hk hkind fun env he s' x h0 htk => ?_)
    subst he
    exact ⟨hlim.keeps x.toInCall.keep, codeAny_func (h s' htk h0 x)⟩

theorem call_fn0 {w : World} {A : Around} {X : List Addr} {fa : Addr} {fd : FuncData} {body : List Stmt} {vals : List Value} {ds : List Dt} {names : List Str} {d : Dt} {s : Shared} {n : Nat}
    (f : FnAt w.params fa fd body) (r : Room (n + 1) A) (tk : 0 < s.toks ∨ Dr (newFunctionEnv fd.scope fd.globals [] (names.zip vals) (fd.qualname ++ ".<locals>.") (some fa) fd.code none fd.builtins)) (wd : Wd w s.heap) (xin : Xin X s) (hi : IsAll s.heap X ds vals)
    (hbind : bindArgs fd ⟨vals, []⟩ = pure (names.zip vals)) (hlen : names.length = ds.length)
    (hkind : names.all (fun x => fd.scope.names.lookup x == some .local || (fd.scope.names.lookup x == some .cell && !(x == ("__classdict__" : Str)))) = true) (hnd : names.Nodup)
    (h : ∀ e s₁, e = callEnvC fd s.heap.objs.size fa → Room n (A.deeper e) → (∀ a ∈ ownOf e [], s.heap.get? a = none) → Fn w s (ownOf e []) e (outOf e X) [] (names.zip ds) s₁ →
      Wp w (A.deeper e) (execs body e) (fun fl s' => Kp s s' ∧ Is s'.heap X d (match fl with | .ret v => v | _ => .none)) Bot s₁) :
    wpAny (model pw w) A (call (.ref fa) vals) (fun v s' => Kp s s' ∧ Is s'.heap X d v) Bot s := by
  obtain ⟨oc, od, sl, lk⟩ := f.lk
  obtain ⟨c, co, cvs, ct, c1, c2, c3, c4⟩ := f.cd
  have hlen' : names.length = vals.length := hlen.trans hi.length.symm
  have hkeys : (names.zip vals).map (·.1) = names := by rw [List.map_fst_zip]; omega
  have hkd : ∀ x ∈ names, fd.scope.names.lookup x = some .local ∨ (fd.scope.names.lookup x = some .cell ∧ (x == ("__classdict__" : Str)) = false) := fun x hx => by
    have := List.all_eq_true.mp hkind x hx
    simp only [Bool.or_eq_true, Bool.and_eq_true, beq_iff_eq, Bool.not_eq_true'] at this
    exact this
  have hmem : ∀ x ∈ names.zip vals, x.1 ∈ names := fun x hx => by rw [← hkeys]; exact List.mem_map_of_mem hx
  refine wpAny_call ?_
  refine call_cellsZ (by have := r.dp; omega) (wd _ _ lk) rfl wd.nolimit ⟨c, co, cvs, ct, c1, wd _ _ c2, c3, c4⟩ f.bd hbind f.clo (fun x hx => (hkd _ (hmem x hx)).imp id fun q => ⟨q.1, cellsFrom_some _ _ _ (.inl q.1)⟩) tk (fun s₁ htk h0 ic => ?_) f.co f.gn f.kd
  generalize hE : callEnvC fd s.heap.objs.size fa = env at ic ⊢
  have hnone : ∀ a, s.heap.objs.size ≤ a → s.heap.get? a = none := fun a ha => by
    cases q : s.heap.get? a with
    | none => rfl
    | some o => exact absurd (Heap.lt_size q) (Nat.not_lt.mpr ha)
  have hce : env.cells = cellsFrom (s.heap.objs.size + 1) fd.scope.names [] := by rw [← hE]; rfl
  have hsc : env.scope = fd.scope := by rw [← hE]; rfl
  have hfresh := ic.toInCall.fresh
  have hkeep := ic.toInCall.keep
  have cellIs : ∀ {n : Str} {c : Addr}, (n, c) ∈ env.cells → env.cells.lookup n = some c := fun {n c} hm => by
    rw [hce] at hm ⊢; exact lookup_cells f.nd hm
  have hext : ∀ b o, b ∉ X → s.heap.get? b = some o → s₁.heap.get? b = some o ∧ b ∉ outOf env X := fun b o hb ho => by
    refine ⟨hkeep b o ho, fun hm => ?_⟩
    rcases List.mem_cons.mp hm with rfl | hm
    · rw [hnone _ hfresh] at ho; cases ho
    · rcases List.mem_append.mp hm with hm | hm
      · obtain ⟨p, hp, rfl⟩ := List.mem_map.mp hm
        rw [hnone p.2 (Nat.le_of_lt (Nat.lt_of_le_of_lt hfresh (ic.above p.1 p.2 hp)))] at ho; cases ho
      · exact hb hm
  have hown : ∀ a ∈ ownOf env [], s.heap.get? a = none := fun a ha => by
    rcases mem_ownOf.mp ha with rfl | ⟨p, hp, rfl⟩ | ⟨p, hp, rfl⟩
    · exact hnone _ hfresh
    · exact hnone _ (Nat.le_of_lt (Nat.lt_of_le_of_lt hfresh (ic.above p.1 p.2 hp)))
    · cases hp
  have F : Fn w s (ownOf env []) env (outOf env X) [] (names.zip ds) s₁ := by
    have kno : ∀ a, s.heap.get? a = none → (KK w.params).lookup a = none := fun a ha => by
      cases q : (KK w.params).lookup a with
      | none => rfl
      | some o => rw [wd a o q] at ha; cases ha
    refine { tk := h0, tk0 := htk, wd := wd.keep hkeep, wl := kno _ (hnone _ hfresh), wc := fun p hp => kno _ (hnone _ (Nat.le_of_lt (Nat.lt_of_le_of_lt hfresh (ic.above p.1 p.2 hp)))), xin := fun a ha => ?_, ow := fun p hp => (nomatch hp), vars := fun p hp => ?_, same := ic.toInCall.same, keep0 := fun b o _ e => hkeep b o e, ns := ⟨_, ic.toInCall.ns⟩, cl := fun p hp => ⟨_, ic.cell p.1 p.2 (cellIs hp)⟩, lx := List.mem_cons_self, cx := fun p hp => ?_, lm := ⟨List.mem_cons_self, fun p hp => mem_ownOf.mpr (.inr (.inl ⟨p, hp, rfl⟩))⟩, ap := ic.apart, oo := fun p hp => (nomatch hp) }
    · rcases List.mem_cons.mp ha with rfl | ha
      · obtain ⟨o, _, _, ho, _⟩ := ic.toInCall.ns; exact ⟨o, ho⟩
      · rcases List.mem_append.mp ha with ha | ha
        · obtain ⟨p, hp, rfl⟩ := List.mem_map.mp ha
          obtain ⟨o, ho, _⟩ := ic.cell p.1 p.2 (cellIs hp)
          exact ⟨o, ho⟩
        · obtain ⟨o, ho⟩ := xin a ha; exact ⟨o, hkeep a o ho⟩
    · obtain ⟨v, hv, hvi⟩ := zip_pairs names ds vals hi p hp
      refine ⟨v, ?_, hvi.ext hext⟩
      have hx := hmem _ hv
      rcases hkd _ hx with q | ⟨q, qc⟩
      · exact .inl ⟨by rw [Env.kindOf, hsc]; exact q, _, ic.toInCall.ns, bindL_mem _ _ (by rw [hkeys]; exact hnd) _ _ hv (by rw [Env.kindOf, hsc]; exact q)⟩
      · have hsome : (env.cells.lookup p.1).isSome = true := by rw [hce]; exact cellsFrom_some _ _ _ (.inl q)
        obtain ⟨c, hc⟩ := Option.isSome_iff_exists.mp hsome
        refine .inr ⟨.inl (by rw [Env.kindOf, hsc]; exact q), qc, c, hc, ?_⟩
        have := ic.cell _ _ hc
        rwa [bindC_mem _ _ (by rw [hkeys]; exact hnd) _ _ hv (by rw [Env.kindOf, hsc, q]; simp)] at this
    · exact List.mem_cons_of_mem _ (List.mem_append_left _ (List.mem_map_of_mem hp))
  exact wpb (h env s₁ hE.symm r.deeper hown F).p fun fl s' h' => h'

theorem call_fn {w : World} {A : Around} {X : List Addr} {fa : Addr} {fd : FuncData} {body : List Stmt} {vals : List Value} {ds : List Dt} {names : List Str} {d : Dt} {s : Shared} {n : Nat}
    (f : FnAt w.params fa fd body) (r : Room (n + 1) A) (tk : 0 < s.toks) (wd : Wd w s.heap) (xin : Xin X s) (hi : IsAll s.heap X ds vals)
    (hbind : bindArgs fd ⟨vals, []⟩ = pure (names.zip vals)) (hlen : names.length = ds.length)
    (hkind : names.all (fun x => fd.scope.names.lookup x == some .local || (fd.scope.names.lookup x == some .cell && !(x == ("__classdict__" : Str)))) = true) (hnd : names.Nodup)
    (h : ∀ e s₁, e = callEnvC fd s.heap.objs.size fa → Room n (A.deeper e) → (∀ a ∈ ownOf e [], s.heap.get? a = none) → Fn w s (ownOf e []) e (outOf e X) [] (names.zip ds) s₁ →
      Wp w (A.deeper e) (execs body e) (fun fl s' => Kp s s' ∧ Is s'.heap X d (match fl with | .ret v => v | _ => .none)) Bot s₁) :
    wpAny (model pw w) A (call (.ref fa) vals) (fun v s' => Kp s s' ∧ Is s'.heap X d v) Bot s :=
  call_fn0 f r (.inl tk) wd xin hi hbind hlen hkind hnd h
end Mine

namespace Mine
open PySem PySem.W PyProof.Rows

/-! ## iterators -/
structure Kw (wr : List Addr) (s s' : Shared) : Prop where
  tk : s.toks ≤ s'.toks
  same : ∃ h tk, s' = { s with heap := h, toks := tk }
  keep : ∀ b o, b ∉ wr → s.heap.get? b = some o → s'.heap.get? b = some o
theorem Kw.refl {wr : List Addr} (s : Shared) : Kw wr s s := ⟨Nat.le_refl _, ⟨s.heap, s.toks, rfl⟩, fun _ _ _ h => h⟩
theorem Kw.trans {wr : List Addr} {s s' s'' : Shared} (a : Kw wr s s') (b : Kw wr s' s'') : Kw wr s s'' := by
  obtain ⟨tk1, ⟨h, t, e1⟩, k⟩ := a
  obtain ⟨tk2, ⟨h2, t2, e2⟩, k2⟩ := b
  exact ⟨Nat.le_trans tk1 tk2, ⟨h2, t2, by rw [e2, e1]⟩, fun b o hb e => k2 b o hb (k b o hb e)⟩
theorem Kp.kw {wr : List Addr} {s s' : Shared} (a : Kp s s') : Kw wr s s' := by
  have k := a.ext
  have tk := a.tk
  obtain ⟨h, t, e, _⟩ := a.k
  exact ⟨tk, ⟨h, t, e⟩, fun b o _ x => k b o x⟩

structure It (w : World) (A : Around) (X : List Addr) (I : Addr) (fp wr : List Addr) (src : List Dt) (tg : Expr) (St : Nat → Heap → Prop) (Mid : Nat → Value → Heap → Prop) : Prop where
  frame : ∀ i h h', St i h → (∀ b o, (b ∉ wr ++ X ∨ b ∈ fp) → h.get? b = some o → h'.get? b = some o) → St i h'
  live : ∀ i h, St i h → ∀ b ∈ fp, ∃ o, h.get? b = some o
  kinds : ∀ i h, St i h → ∀ b ∈ fp, ∀ o, h.get? b = some o → (∀ es ep, o.data ≠ .dict es ep) ∧ (∀ v, o.data ≠ .cell v)
  sub : ∀ b ∈ wr, b ∈ fp
  item : ∀ i d s, src[i]? = some d → St i s.heap → Xin (wr ++ X) s → wpAny (model pw w) A (pyNext (.ref I)) (fun r s' => ∃ v, r = some v ∧ Is s'.heap (wr ++ X) d v ∧ Mid i v s'.heap ∧ Kw wr s s') Bot s
  done : ∀ s, St src.length s.heap → wpAny (model pw w) A (pyNext (.ref I)) (fun r s' => r = none ∧ Kw wr s s') Bot s
  self : ∀ i s, St i s.heap → wpAny (model pw w) A (pyIter (.ref I)) (fun v s' => v = .ref I ∧ s' = s) Bot s
  go : ∀ i s v, Mid i v s.heap → wpAny (model pw w) A (letOwnedTupleGo tg (.ref I) v) (fun _ s' => Kw wr s s' ∧ St (i + 1) s'.heap) Bot s

/-- an iterator with a class of its own and fields: no tuple of its own -/
theorem go_plain {w : World} {A : Around} {s : Shared} {I : Addr} {target : Expr} {v : Value} {o : Obj} {T : String} {Q : Unit → Shared → Prop} {E : Value → Shared → Prop} (ho : s.heap.get? I = some o) (hc : o.cls = .type T)
    (hT : ["enumerate", "zip", "dict_itemiterator", "dict_reverseitemiterator", "odict_iterator", "itertools.zip_longest", "itertools.pairwise"].contains T = false) (h : Q () s) :
    wpAny (model pw w) A (letOwnedTupleGo target (.ref I) v) Q E s := by
  unfold letOwnedTupleGo
  split
  · cases v <;> try exact wpAny_pure h
    refine wpAny_bind (wpAny_load ho ?_)
    rw [hc]
    cases o.data <;> try exact wpAny_pure h
    simp only [hT, Bool.false_and, Bool.false_eq_true, if_false]
    exact wpAny_pure h
  · cases v <;> try exact wpAny_pure h
    refine wpAny_bind (wpAny_load ho ?_)
    rw [hc]
    cases o.data <;> try exact wpAny_pure h
    simp only [hT, Bool.false_and, Bool.false_eq_true, if_false]
    exact wpAny_pure h
  · exact wpAny_pure h

theorem It.list {w : World} {A : Around} {X : List Addr} {tg : Expr} {I ax : Addr} {fp : List Addr} {ds : List Dt} {vs : List Value} (hh : A.handled = none) (hne : ax ≠ I) (hfp : (fp = [I] ∧ ax ∉ X) ∨ fp = [I, ax]) :
    It w A X I fp [I] ds tg (fun i h => h.IsListIter I ax i ∧ h.PlainList ax vs.toArray ∧ IsAll h (I :: X) ds vs) (fun i _ h => h.IsListIter I ax (i + 1) ∧ h.PlainList ax vs.toArray ∧ IsAll h (I :: X) ds vs) where
  frame := fun i h h' ⟨a, b, c⟩ k => by
    have hI : I ∈ fp := by rcases hfp with ⟨rfl, _⟩ | rfl <;> simp
    have hax : ax ∉ [I] ++ X ∨ ax ∈ fp := by
      rcases hfp with ⟨rfl, q⟩ | rfl
      · exact .inl (by simp [hne, q])
      · exact .inr (by simp)
    exact ⟨a.at fun o ho => k _ o (.inr hI) ho, b.at fun o ho => k _ o hax ho, c.ext fun b o hb ho => ⟨k b o (.inl hb) ho, hb⟩⟩
  live := fun i h ⟨⟨o, ho, _⟩, ⟨n, hb⟩, _⟩ b hm => by
    rcases hfp with ⟨rfl, _⟩ | rfl
    · simp at hm; exact ⟨o, hm ▸ ho⟩
    · simp at hm; rcases hm with rfl | rfl
      · exact ⟨o, ho⟩
      · exact ⟨_, hb⟩
  kinds := fun i h ⟨⟨o, ho, hc, hd⟩, ⟨n, hb⟩, _⟩ b hm o' ho' => by
    have one : o' = o ∨ o' = { cls := .type "list", data := .seq vs.toArray n } := by
      rcases hfp with ⟨rfl, _⟩ | rfl
      · simp at hm; subst hm; rw [ho] at ho'; exact .inl (Option.some.inj ho').symm
      · simp at hm; rcases hm with rfl | rfl
        · rw [ho] at ho'; exact .inl (Option.some.inj ho').symm
        · rw [hb] at ho'; exact .inr (Option.some.inj ho').symm
    rcases one with rfl | rfl
    · rw [hd]; exact ⟨fun _ _ q => (nomatch q), fun _ q => (nomatch q)⟩
    · exact ⟨fun _ _ q => (nomatch q), fun _ q => (nomatch q)⟩
  sub := fun b hm => by rcases hfp with ⟨rfl, _⟩ | rfl <;> simp at hm <;> simp [hm]
  item := fun i d s hd ⟨a, b, c⟩ _ => by
    obtain ⟨v, hv, hi⟩ := c.nth hd
    refine wpAny_pyNext_list_item a b.isList (x := v) (by simpa using hv) fun h' hit' hs' => ?_
    have k : ∀ b o, b ∉ [I] → s.heap.get? b = some o → h'.get? b = some o := fun b o hb ho => SameBut.back hs' (by simpa using hb) ho
    have k' : ∀ b o, b ∉ I :: X → s.heap.get? b = some o → h'.get? b = some o ∧ b ∉ I :: X := fun b o hb ho => ⟨k b o (by simp at hb ⊢; exact hb.1) ho, hb⟩
    exact ⟨v, rfl, hi.ext k', ⟨hit', b.at fun o ho => k _ o (by simpa using hne) ho, c.ext k'⟩, ⟨by first | exact Nat.le_refl _ | exact Nat.le_succ _, ⟨h', _, rfl⟩, k⟩⟩
  done := fun s ⟨a, b, c⟩ => wpAny_pyNext_list_end hh a b.isList (by simp [c.length]) fun h' he' => ⟨rfl, by first | exact Nat.le_refl _ | exact Nat.le_succ _, ⟨h', _, rfl⟩, fun b o hb ho => he' b o (by simpa using hb) ho⟩
  self := fun i s ⟨a, _⟩ => wpAny_pyIter_listiter a ⟨rfl, rfl⟩
  go := fun i s v st => by
    obtain ⟨⟨o, ho, hc, hd⟩, r⟩ := id st
    exact go_plain ho hc (by decide) ⟨Kw.refl s, st⟩

/-- an iterator that was just made: whatever new addresses Y are left out too -/
noncomputable def Made (w : World) (A : Around) (X : List Addr) (tg : Expr) (src : List Dt) (own : Bool) (s : Shared) (it : Value) (s₂ : Shared) : Prop := Kp s s₂ ∧
    ∃ I fp wr, it = .ref I ∧ (∀ b ∈ wr, s.heap.get? b = none) ∧ (own = false → fp = wr) ∧ ∀ Y : List Addr, (∀ b ∈ Y, s₂.heap.get? b = none) → ∃ St Mid, It w A (Y ++ X) I fp wr src tg St Mid ∧ St 0 s₂.heap
/-- an expression that is gone through, its data one by one -/
structure EvIt (w : World) (A : Around) (e : Env) (X : List Addr) (Ow : Owns) (Γ : List (Str × Dt)) (tg iter : Expr) (own : Bool) (src : List Dt) : Prop where
  h : ∀ s, Cx w e X Ow Γ s → wpAny (model pw w) A (eval iter e) (fun x s₁ => wpAny (model pw w) A (pyIter x) (Made w A X tg src own s) Bot s₁) Bot s

section
variable {w : World} {A : Around} {s₀ : Shared} {Mu : List Addr} {e : Env} {X : List Addr} {Ow : Owns} {Γ : List (Str × Dt)} {s : Shared}

theorem size_none (h : Heap) : h.get? h.objs.size = none := by
  cases q : h.get? h.objs.size with
  | none => rfl
  | some o => exact absurd (Heap.lt_size q) (Nat.lt_irrefl _)
theorem none_back {s s' : Shared} {b : Addr} (k : Kp s s') (h : s'.heap.get? b = none) : s.heap.get? b = none := by
  cases q : s.heap.get? b with
  | none => rfl
  | some o => rw [k.ext _ o q] at h; cases h
theorem iter_list {tg : Expr} {ax : Addr} {vs : List Value} {ds : List Dt} {s s₁ : Shared} {own : Bool} (hh : A.handled = none) (k : Kp s s₁) (hl : s₁.heap.PlainList ax vs.toArray) (i : IsAll s₁.heap X ds vs) (hown : own = false → ax ∉ X) :
    wpAny (model pw w) A (pyIter (.ref ax)) (Made w A X tg ds own s) Bot s₁ := by
  have hnew := size_none s₁.heap
  have hold := none_back k hnew
  have hne : ax ≠ s₁.heap.objs.size := by
    obtain ⟨n, hl⟩ := hl
    intro q; rw [q, hnew] at hl; cases hl
  refine wpAny_pyIter_list hl.isList ⟨k.trans (Kp.push _ _), s₁.heap.objs.size, if own then [s₁.heap.objs.size, ax] else [s₁.heap.objs.size], [s₁.heap.objs.size], rfl, by simpa using hold, fun q => by simp [q], fun Y hY => ?_⟩
  have up : ∀ b o, s₁.heap.get? b = some o → (s₁.heap.push { cls := .type "list_iterator", data := .fields #[.ref ax, .int 0 0] }).get? b = some o := fun b o ho => Heap.get?_push_of_some _ ho
  have hax : ax ∉ Y := fun hm => by
    obtain ⟨n, hl⟩ := hl
    have := hY ax hm
    rw [up _ _ hl] at this; cases this
  have st : (s₁.heap.push { cls := .type "list_iterator", data := .fields #[.ref ax, .int 0 0] }).IsListIter s₁.heap.objs.size ax 0 ∧ (s₁.heap.push { cls := .type "list_iterator", data := .fields #[.ref ax, .int 0 0] }).PlainList ax vs.toArray ∧
      IsAll (s₁.heap.push { cls := .type "list_iterator", data := .fields #[.ref ax, .int 0 0] }) (s₁.heap.objs.size :: (Y ++ X)) ds vs :=
    ⟨⟨_, get_push _ _, rfl, rfl⟩, hl.at fun o ho => up _ _ ho, i.ext fun b o hb ho => ⟨up _ _ ho, by
      intro hm
      rcases List.mem_cons.mp hm with rfl | hm
      · rw [hnew] at ho; cases ho
      · rcases List.mem_append.mp hm with hm | hm
        · have := hY b hm
          rw [up _ _ ho] at this; cases this
        · exact hb hm⟩⟩
  refine ⟨_, _, It.list hh hne ?_, st⟩
  cases own with
  | true => exact .inr rfl
  | false => exact .inl ⟨rfl, fun hm => (List.mem_append.mp hm).elim hax (hown rfl)⟩

theorem EvIt.lst {tg ex : Expr} {ds : List Dt} (hh : A.handled = none) (h : Ev w A e X Ow Γ ex (.lst ds)) : EvIt w A e X Ow Γ tg ex false ds := .mk fun s c =>
  h.use c fun v s₁ k₁ c₁ i₁ => by
    simp only [Is] at i₁
    obtain ⟨a, vs, rfl, ha, hl, hs⟩ := i₁
    exact iter_list hh k₁ hl hs fun _ => ha
theorem EvIt.own {tg ex : Expr} {a : Addr} {ds : List Dt} (hh : A.handled = none) (h : Ev w A e X Ow Γ ex (.own a)) (hm : (a, ds) ∈ Ow) : EvIt w A e X Ow Γ tg ex true ds := .mk fun s c =>
  h.use c fun v s₁ k₁ c₁ i₁ => by
    simp only [Is] at i₁
    subst i₁
    obtain ⟨_, vs, hl, hs⟩ := c₁.ow _ hm
    exact iter_list hh k₁ hl hs fun q => (nomatch q)

/-! ## the for statement -/
theorem codeAny_forLoop' {R : Result → Shared → Prop} {target : Expr} {it : Value} {body : List Stmt} (I : Nat → Shared → Prop)
    (turn : ∀ n s, I n s → wpAny (model pw w) A (pyNext it) (fun r s₁ => match r with
      | none => R (.ok .next) s₁
      | some v => wpAny (model pw w) A (letOwnedTupleGo target it v) (fun _ s' => wpAny (model pw w) A (assign target e v) (fun _ s₂ => wpAny (model pw w) A (execs body e) (fun f s₃ => match f with
          | .next | .cont => ∃ m, m < n ∧ I m s₃
          | .brk => R (.ok .next) s₃
          | .ret v => R (.ok (.ret v)) s₃) Bot s₂) Bot s') Bot s₁) Bot s)
    (n : Nat) (h : I n s) : codeAny (model pw w) A (.forLoop target it body [] e) R s := by
  refine codeAny_loop' rfl I (fun n s hI => ?_) n h
  show wpAny _ _ ((forTurn target it body [] e).onRaise (fun x => do noteFrame x e; theTreesLotGoes x)) _ _ s
  refine wpAny_noted ?_
  simp only [forTurn]
  refine wpAny_bind (wpAny_standAt (wpAny_bind (wpAny_onRaise (wpAny_mono (turn n s hI) (fun r s₁ h₁ => ?_) fun _ _ h' => h'.elim))))
  cases r with
  | none => exact wpAny_pure (.inr ⟨rfl, codeAny_block (wpAny_execs_nil h₁)⟩)
  | some v =>
    refine wpAny_bind (wpb h₁ fun _ s' h' => ?_)
    refine wpAny_bind (wpb h' fun _ s₂ h₂ => wpAny_bind (wpb h₂ fun f s₃ h₃ => ?_))
    cases f with
    | next => exact wpAny_pure (.inl ⟨rfl, h₃⟩)
    | cont => exact wpAny_pure (.inl ⟨rfl, h₃⟩)
    | brk => exact wpAny_pure h₃
    | ret v => exact wpAny_pure h₃

theorem Fs.iterX {wr : List Addr} {s' : Shared} (F : Fs w e X Ow Γ s) (k : Kp s s') (hw : ∀ b ∈ wr, s.heap.get? b = none) (hl : ∀ b ∈ wr, ∃ o, s'.heap.get? b = some o) : Fs w e (wr ++ X) Ow Γ s' := by
  have G := F.kp k
  have out : ∀ b o, b ∉ X → s.heap.get? b = some o → s'.heap.get? b = some o ∧ b ∉ wr ++ X := fun b o hb ho => ⟨k.ext b o ho, fun hm => by
    rcases List.mem_append.mp hm with hm | hm
    · rw [hw b hm] at ho; cases ho
    · exact hb hm⟩
  exact { wd := G.wd, xin := fun a ha => (by rcases List.mem_append.mp ha with ha | ha; exact hl a ha; exact G.xin a ha),
          ow := fun p hp => (let ⟨a, vs, b, c⟩ := F.ow p hp; ⟨List.mem_append_right _ a, vs, b.at fun o ho => k.ext _ o ho, c.ext out⟩),
          vars := fun p hp => (let ⟨v, a, b⟩ := F.vars p hp; ⟨v, a.keep k.ext, b.ext out⟩),
          ns := G.ns, cl := G.cl, lx := List.mem_append_right _ G.lx, cx := fun p hp => List.mem_append_right _ (G.cx p hp), ap := G.ap, wc := G.wc, wl := G.wl, tk := G.tk }

/-- an iterator's step: the frame stands -/
theorem Fs.kw {wr fp : List Addr} {I : Addr} {src : List Dt} {St : Nat → Heap → Prop} {i : Nat} {s' : Shared} (F : Fs w e (wr ++ X) Ow Γ s) (hwr : ∀ b ∈ wr, b ≠ e.locals ∧ (∀ p ∈ e.cells, b ≠ p.2) ∧ (∀ p ∈ Ow, b ≠ p.1) ∧ (KK w.params).lookup b = none)
    (k : Kw wr s s') (hl : ∀ b ∈ wr, ∃ o, s'.heap.get? b = some o) : Fs w e (wr ++ X) Ow Γ s' := by
  have ne : ∀ {b : Addr}, (b = e.locals ∨ (∃ p ∈ e.cells, b = p.2) ∨ (∃ p ∈ Ow, b = p.1)) → b ∉ wr := fun {b} h hm => by
    obtain ⟨h1, h2, h3, _⟩ := hwr b hm
    rcases h with h | ⟨p, hp, h⟩ | ⟨p, hp, h⟩
    · exact h1 h
    · exact h2 p hp h
    · exact h3 p hp h
  have out : ∀ b o, b ∉ wr ++ X → s.heap.get? b = some o → s'.heap.get? b = some o ∧ b ∉ wr ++ X := fun b o hb ho => ⟨k.keep b o (fun hm => hb (List.mem_append_left _ hm)) ho, hb⟩
  exact { wd := fun a o ho => k.keep a o (fun hm => by rw [(hwr a hm).2.2.2] at ho; cases ho) (F.wd a o ho),
          xin := fun a ha => (by
            by_cases q : a ∈ wr
            · exact hl a q
            · obtain ⟨o, ho⟩ := F.xin a ha; exact ⟨o, k.keep a o q ho⟩),
          ow := fun p hp => (let ⟨a, vs, b, c⟩ := F.ow p hp; ⟨a, vs, b.at fun o ho => k.keep _ o (ne (.inr (.inr ⟨p, hp, rfl⟩))) ho, c.ext out⟩),
          vars := fun p hp => (by
            obtain ⟨v, a, b⟩ := F.vars p hp
            refine ⟨v, ?_, b.ext out⟩
            rcases a with ⟨a, m, ⟨o, es, ep, ho, r⟩, c⟩ | ⟨a, b, cc, c, o, ho, hd⟩
            · exact .inl ⟨a, m, ⟨o, es, ep, k.keep _ o (ne (.inl rfl)) ho, r⟩, c⟩
            · exact .inr ⟨a, b, cc, c, o, k.keep _ o (ne (.inr (.inl ⟨_, mem_of_lookup c, rfl⟩))) ho, hd⟩),
          ns := (let ⟨m, o, es, ep, ho, r⟩ := F.ns; ⟨m, o, es, ep, k.keep _ o (ne (.inl rfl)) ho, r⟩),
          cl := fun p hp => (let ⟨v, o, ho, hd⟩ := F.cl p hp; ⟨v, o, k.keep _ o (ne (.inr (.inl ⟨p, hp, rfl⟩))) ho, hd⟩), lx := F.lx, cx := F.cx, ap := F.ap, wc := F.wc, wl := F.wl, tk := Nat.lt_of_lt_of_le F.tk k.tk }
end
end Mine

namespace Mine
open PySem PySem.W PyProof.Rows

section
variable {w : World} {A : Around} {s₀ : Shared} {Mu : List Addr} {e : Env} {X : List Addr} {Ow : Owns} {Γ : List (Str × Dt)} {s : Shared}

theorem not_old {s : Shared} {b : Addr} {o : Obj} (h : s.heap.get? b = none) (ho : s.heap.get? b = some o) : False := by rw [h] at ho; cases ho

/-- what a turn of a loop must leave -/
noncomputable def Turn (w : World) (s₀ : Shared) (Mu : List Addr) (e : Env) (X : List Addr) (Ow₀ : Owns) (Inv : Nat → Owns → List (Str × Dt) → Prop) (Q : Flow → Shared → Prop) (i : Nat) (wr : List Addr) (s' : Shared) (f : Flow) (s₃ : Shared) : Prop :=
  match f with
  | .next | .cont => ∃ Ow' Γ', Inv (i + 1) Ow' Γ' ∧ Ow'.map (·.1) = Ow₀.map (·.1) ∧ Fn w s' (ownOf e Ow₀) e (wr ++ X) Ow' Γ' s₃
  | .brk => ∃ Ow' Γ', Ow'.map (·.1) = Ow₀.map (·.1) ∧ Fn w s' (ownOf e Ow₀) e (wr ++ X) Ow' Γ' s₃ ∧ ∀ s₄, Fn w s₀ Mu e X Ow' Γ' s₄ → Q .next s₄
  | .ret v => ∃ Ow' Γ' d, Ow'.map (·.1) = Ow₀.map (·.1) ∧ Fn w s' (ownOf e Ow₀) e (wr ++ X) Ow' Γ' s₃ ∧ Is s₃.heap (wr ++ X) d v ∧ ∀ s₄, Fn w s₀ Mu e X Ow' Γ' s₄ → Is s₄.heap X d v → Q (.ret v) s₄

theorem ownOf_eq {Ow' Ow₀ : Owns} (h : Ow'.map (·.1) = Ow₀.map (·.1)) : ownOf e Ow' = ownOf e Ow₀ := by unfold ownOf; rw [h]

theorem Fn.for_ {target iter : Expr} {body : List Stmt} {pos : Pos} {src : List Dt} {Q : Flow → Shared → Prop} {E : Value → Shared → Prop} (F : Fn w s₀ Mu e X Ow Γ s) (hit : EvIt w A e X Ow Γ target iter false src)
    (Inv : Nat → Owns → List (Str × Dt) → Prop) (h0 : Inv 0 Ow Γ)
    (turn : ∀ i d Ow' Γ' wr s' v, src[i]? = some d → Inv i Ow' Γ' → Ow'.map (·.1) = Ow.map (·.1) → Fn w s' (ownOf e Ow) e (wr ++ X) Ow' Γ' s' → Is s'.heap (wr ++ X) d v →
      wpAny (model pw w) A (PySem.assign target e v) (fun _ s₂ => Wp w A (execs body e) (Turn w s₀ Mu e X Ow Inv Q i wr s') Bot s₂) Bot s')
    (done : ∀ Ow' Γ' s', Inv src.length Ow' Γ' → Ow'.map (·.1) = Ow.map (·.1) → Fn w s₀ Mu e X Ow' Γ' s' → Q .next s')
    (hs : ∀ x, foldedSetIterable iter e x = pure x := by intro _; rfl) :
    Wp w A (exec (.For target iter body [] pos) e) Q E s := by
  refine .mk (wpAny_For (wpb (hit.h s F.toCx) fun x s₁ h₁ => wpb h₁ fun it s₂ h₂ => ?_) hs)
  obtain ⟨k, I, fp, wr, rfl, hw, hfp, hY⟩ := h₂
  obtain ⟨St, Mid, W, st⟩ := hY [] (fun b hb => (nomatch hb))
  have hfp := hfp rfl
  have wne : ∀ b ∈ wr, b ≠ e.locals ∧ (∀ p ∈ e.cells, b ≠ p.2) ∧ (∀ p ∈ Ow, b ≠ p.1) ∧ (KK w.params).lookup b = none := fun b hb => by
    have hn := hw b hb
    refine ⟨fun q => ?_, fun p hp q => ?_, fun p hp q => ?_, ?_⟩
    · obtain ⟨m, o, _, _, ho, _⟩ := F.ns; rw [← q] at ho; exact not_old hn ho
    · obtain ⟨v, o, ho, _⟩ := F.cl p hp; rw [← q] at ho; exact not_old hn ho
    · obtain ⟨_, vs, ⟨n, ho⟩, _⟩ := F.ow p hp; rw [← q] at ho; exact not_old hn ho
    · cases q : (KK w.params).lookup b with
      | none => rfl
      | some o => exact (not_old hn (F.wd b o q)).elim
  have wneO : ∀ {Ow' : Owns}, Ow'.map (·.1) = Ow.map (·.1) → ∀ b ∈ wr, b ≠ e.locals ∧ (∀ p ∈ e.cells, b ≠ p.2) ∧ (∀ p ∈ Ow', b ≠ p.1) ∧ (KK w.params).lookup b = none := fun {Ow'} ho b hb => by
    obtain ⟨a, b', c, d⟩ := wne b hb
    refine ⟨a, b', fun p hp q => ?_, d⟩
    have : p.1 ∈ Ow.map (·.1) := by rw [← ho]; exact List.mem_map_of_mem hp
    obtain ⟨r, hr, hre⟩ := List.mem_map.mp this
    exact c r hr (q.trans hre.symm)
  -- the invariant over the turns
  have G0 : Fs w e (wr ++ X) Ow Γ s₂ := F.toFs.iterX k hw fun b hb => W.live 0 _ st b (W.sub b hb)
  have join : ∀ {Ow' Γ' s'}, Ow'.map (·.1) = Ow.map (·.1) → Fs w e (wr ++ X) Ow' Γ' s' → Kw (wr ++ ownOf e Ow) s s' → Fn w s₀ Mu e X Ow' Γ' s' := fun {Ow' Γ' s'} ho G kk => by
    obtain ⟨h, t, e0⟩ := F.same
    obtain ⟨h2, t2, e2⟩ := kk.same
    have hoX : ∀ p ∈ Ow', p.1 ∈ Ow.map (·.1) := fun p hp => by rw [← ho]; exact List.mem_map_of_mem hp
    refine ⟨G.lessX (fun a ha => List.mem_append_right _ ha) F.lx F.cx (fun p hp => ?_), Nat.le_trans F.tk0 kk.tk, ⟨h2, t2, by rw [e2, e0]⟩, fun b o hb eb => ?_, F.lm, fun p hp => ?_⟩
    · obtain ⟨r, hr, hre⟩ := List.mem_map.mp (hoX p hp)
      rw [← hre]; exact (F.ow r hr).1
    · have hs := F.keep0 b o hb eb
      refine kk.keep b o (fun hm => ?_) hs
      rcases List.mem_append.mp hm with hm | hm
      · exact not_old (hw b hm) hs
      · rcases mem_ownOf.mp hm with rfl | ⟨p, hp, rfl⟩ | ⟨p, hp, rfl⟩
        · exact hb F.lm.1
        · exact hb (F.lm.2 p hp)
        · rcases F.oo p hp with q | q
          · exact hb q
          · rw [q] at eb; cases eb
    · obtain ⟨r, hr, hre⟩ := List.mem_map.mp (hoX p hp)
      rw [← hre]; exact F.oo r hr
  refine codeAny_forLoop' (fun n s' => ∃ i Ow' Γ', n = src.length - i ∧ i ≤ src.length ∧ Inv i Ow' Γ' ∧ Ow'.map (·.1) = Ow.map (·.1) ∧ St i s'.heap ∧ Fs w e (wr ++ X) Ow' Γ' s' ∧ Kw (wr ++ ownOf e Ow) s s')
    (fun n s' hI => ?_) src.length ⟨0, Ow, Γ, by simp, Nat.zero_le _, h0, rfl, st, G0, k.kw⟩
  obtain ⟨i, Ow', Γ', rfl, hi, hInv, ho, st', G, kk⟩ := hI
  have kwr : ∀ {a b : Shared}, Kw wr a b → Kw (wr ++ ownOf e Ow) a b := fun x => ⟨x.tk, x.same, fun b o hb h => x.keep b o (fun hm => hb (List.mem_append_left _ hm)) h⟩
  by_cases hlt : i < src.length
  · have hd : src[i]? = some src[i] := List.getElem?_eq_getElem hlt
    refine wpb (W.item i _ s' hd st' G.xin) fun r s₁' h => ?_
    obtain ⟨v, rfl, hv, st₁, kw₁⟩ := h
    refine wpb (W.go i s₁' v st₁) fun _ s₂' h => ?_
    obtain ⟨kw₂, st₂⟩ := h
    have kw := kw₁.trans kw₂
    have G₂ : Fs w e (wr ++ X) Ow' Γ' s₂' := G.kw (fp := fp) (I := I) (src := src) (St := St) (i := i) (wneO ho) kw fun b hb => W.live _ _ st₂ b (W.sub b hb)
    have hv₂ : Is s₂'.heap (wr ++ X) src[i] v := hv.ext fun b o hb ho => ⟨kw₂.keep b o (fun hm => hb (List.mem_append_left _ hm)) ho, hb⟩
    have base : Fn w s₂' (ownOf e Ow) e (wr ++ X) Ow' Γ' s₂' := by rw [← ownOf_eq ho]; exact G₂.base
    refine wpb (turn i _ Ow' Γ' wr s₂' v hd hInv ho base hv₂) fun _ s₃ h => wpb h.p fun f s₄ h => ?_
    have after : ∀ {Ow'' Γ'' s₄}, Ow''.map (·.1) = Ow.map (·.1) → Fn w s₂' (ownOf e Ow) e (wr ++ X) Ow'' Γ'' s₄ → St (i + 1) s₄.heap ∧ Kw (wr ++ ownOf e Ow) s s₄ := fun {Ow'' Γ'' s₄} ho'' H => by
      have q : Kw (ownOf e Ow) s₂' s₄ := ⟨H.tk0, H.same, H.keep0⟩
      refine ⟨W.frame _ _ _ st₂ fun b o hb ho' => q.keep b o (fun hm => ?_) ho', (kk.trans (kwr kw)).trans ⟨q.tk, q.same, fun b o hb h => q.keep b o (fun hm => hb (List.mem_append_right _ hm)) h⟩⟩
      rcases hb with hb | hb
      · refine hb (?_ : b ∈ wr ++ X)
        rcases mem_ownOf.mp hm with rfl | ⟨p, hp, rfl⟩ | ⟨p, hp, rfl⟩
        · exact G₂.lx
        · exact G₂.cx p hp
        · exact List.mem_append_right _ (F.ow p hp).1
      · rw [hfp] at hb
        obtain ⟨h1, h2, h3, _⟩ := wne b hb
        rcases mem_ownOf.mp hm with h | ⟨p, hp, h⟩ | ⟨p, hp, h⟩
        · exact h1 h
        · exact h2 p hp h
        · exact h3 p hp h
    cases f with
    | next =>
      obtain ⟨Ow'', Γ'', h1, h2, h3⟩ := h
      exact ⟨src.length - (i + 1), by omega, i + 1, Ow'', Γ'', rfl, hlt, h1, h2, (after h2 h3).1, h3.toFs, (after h2 h3).2⟩
    | cont =>
      obtain ⟨Ow'', Γ'', h1, h2, h3⟩ := h
      exact ⟨src.length - (i + 1), by omega, i + 1, Ow'', Γ'', rfl, hlt, h1, h2, (after h2 h3).1, h3.toFs, (after h2 h3).2⟩
    | brk =>
      obtain ⟨Ow'', Γ'', h2, h3, h4⟩ := h
      exact h4 _ (join h2 h3.toFs (after h2 h3).2)
    | ret v =>
      obtain ⟨Ow'', Γ'', d, h2, h3, h5, h4⟩ := h
      exact h4 _ (join h2 h3.toFs (after h2 h3).2) (h5.less fun a ha => List.mem_append_right _ ha)
  · have hin : i = src.length := by omega
    subst hin
    refine wpb (W.done s' st') fun r s₁' h => ?_
    obtain ⟨rfl, kw₁⟩ := h
    -- behind the loop the iterator is of no concern
    have kk₁ := kk.trans (kwr kw₁)
    have ne : ∀ {b : Addr}, (b = e.locals ∨ (∃ p ∈ e.cells, b = p.2) ∨ (∃ p ∈ Ow', b = p.1)) → b ∉ wr := fun {b} h hm => by
      obtain ⟨h1, h2, h3, _⟩ := wneO ho b hm
      rcases h with h | ⟨p, hp, h⟩ | ⟨p, hp, h⟩
      · exact h1 h
      · exact h2 p hp h
      · exact h3 p hp h
    have out : ∀ b o, b ∉ wr ++ X → s'.heap.get? b = some o → s₁'.heap.get? b = some o ∧ b ∉ X := fun b o hb ho => ⟨kw₁.keep b o (fun hm => hb (List.mem_append_left _ hm)) ho, fun hm => hb (List.mem_append_right _ hm)⟩
    have hoX : ∀ p ∈ Ow', p.1 ∈ X := fun p hp => by
      have : p.1 ∈ Ow.map (·.1) := by rw [← ho]; exact List.mem_map_of_mem hp
      obtain ⟨r, hr, hre⟩ := List.mem_map.mp this
      rw [← hre]; exact (F.ow r hr).1
    have xw : ∀ a ∈ X, a ∉ wr := fun a ha hm => by
      obtain ⟨o, hx⟩ := F.xin a ha
      exact not_old (hw a hm) hx
    have G' : Fs w e X Ow' Γ' s₁' :=
      { wd := fun a o h => kw₁.keep a o (fun hm => by rw [(wneO ho a hm).2.2.2] at h; cases h) (G.wd a o h),
        xin := fun a ha => (let ⟨o, h⟩ := G.xin a (List.mem_append_right _ ha); ⟨o, kw₁.keep a o (xw a ha) h⟩),
        ow := fun p hp => (let ⟨a, vs, b, c⟩ := G.ow p hp; ⟨hoX p hp, vs, b.at fun o h => kw₁.keep _ o (ne (.inr (.inr ⟨p, hp, rfl⟩))) h, c.ext out⟩),
        vars := fun p hp => (by
          obtain ⟨v, a, b⟩ := G.vars p hp
          refine ⟨v, ?_, b.ext out⟩
          rcases a with ⟨a, m, ⟨o, es, ep, h, r⟩, c⟩ | ⟨a, b, cc, c, o, h, hd⟩
          · exact .inl ⟨a, m, ⟨o, es, ep, kw₁.keep _ o (ne (.inl rfl)) h, r⟩, c⟩
          · exact .inr ⟨a, b, cc, c, o, kw₁.keep _ o (ne (.inr (.inl ⟨_, mem_of_lookup c, rfl⟩))) h, hd⟩),
        ns := (let ⟨m, o, es, ep, h, r⟩ := G.ns; ⟨m, o, es, ep, kw₁.keep _ o (ne (.inl rfl)) h, r⟩),
        cl := fun p hp => (let ⟨v, o, h, hd⟩ := G.cl p hp; ⟨v, o, kw₁.keep _ o (ne (.inr (.inl ⟨p, hp, rfl⟩))) h, hd⟩), lx := F.lx, cx := F.cx, ap := F.ap, wc := F.wc, wl := F.wl, tk := Nat.lt_of_lt_of_le F.tk kk₁.tk }
    refine done Ow' Γ' s₁' hInv ho ?_
    obtain ⟨h, t, e0⟩ := F.same
    obtain ⟨h2, t2, e2⟩ := kk₁.same
    refine ⟨G', Nat.le_trans F.tk0 kk₁.tk, ⟨h2, t2, by rw [e2, e0]⟩, fun b o hb eb => ?_, F.lm, fun p hp => ?_⟩
    · have hs := F.keep0 b o hb eb
      refine kk₁.keep b o (fun hm => ?_) hs
      rcases List.mem_append.mp hm with hm | hm
      · exact not_old (hw b hm) hs
      · rcases mem_ownOf.mp hm with rfl | ⟨p, hp, rfl⟩ | ⟨p, hp, rfl⟩
        · exact hb F.lm.1
        · exact hb (F.lm.2 p hp)
        · rcases F.oo p hp with q | q
          · exact hb q
          · rw [q] at eb; cases eb
    · have : p.1 ∈ Ow.map (·.1) := by rw [← ho]; exact List.mem_map_of_mem hp
      obtain ⟨r, hr, hre⟩ := List.mem_map.mp this
      rw [← hre]; exact F.oo r hr
end
end Mine

namespace Mine
open PySem PySem.W PyProof.Rows

/-! ## the comprehension -/
noncomputable def clOf (scope : Scope) (e : Env) : List (Str × Addr) := scope.names.foldl (fun cs x => if x.2 == .free then (x.1, (e.cells.lookup x.1).getD 0) :: cs else cs) []
structure CompOk (scope : Scope) (e : Env) : Prop where
  kd : scope.kind = .function
  nc : ∀ x ∈ scope.names, x.2 ≠ .cell
  nd : (scope.names.map (·.1)).Nodup
  fr : ∀ x ∈ scope.names, x.2 = .free → ∃ c, e.cells.lookup x.1 = some c

theorem closure_go {e : Env} (f : Str × NameKind → List (Str × Addr) → Sem (ForInStep (List (Str × Addr))))
    (hf : ∀ n k cs, f (n, k) cs = if k == .free then (do let c ← cellOf e n; pure (.yield ((n, c) :: cs))) else pure (.yield cs)) :
    ∀ (names : List (Str × NameKind)) (acc : List (Str × Addr)), (∀ x ∈ names, x.2 = .free → ∃ c, e.cells.lookup x.1 = some c) →
    forIn names acc f = pure (names.foldl (fun cs x => if x.2 == .free then (x.1, (e.cells.lookup x.1).getD 0) :: cs else cs) acc)
  | [], acc, _ => rfl
  | (n, k) :: r, acc, h => by
    rw [List.forIn_cons, List.foldl_cons, hf]
    by_cases hx : k = .free
    · obtain ⟨c, hc⟩ := h (n, k) List.mem_cons_self hx
      dsimp only at hc
      simp only [hx, beq_self_eq_true, if_true, cellOf, hc, Option.getD_some]
      exact closure_go f hf r _ fun y hy => h y (List.mem_cons_of_mem _ hy)
    · have : (k == NameKind.free) = false := by simpa using hx
      simp only [this, Bool.false_eq_true, if_false]
      exact closure_go f hf r _ fun y hy => h y (List.mem_cons_of_mem _ hy)
theorem closure_is {scope : Scope} {e : Env} (ok : CompOk scope e) : closureFor scope e = pure (clOf scope e) := by
  unfold closureFor clOf
  dsimp only
  rw [closure_go (e := e) _ (fun n k cs => rfl) scope.names [] ok.fr]
  rfl

theorem clOf_go {e : Env} : ∀ (names : List (Str × NameKind)) (acc : List (Str × Addr)) (q : Str × Addr), q ∈ names.foldl (fun cs x => if x.2 == .free then (x.1, (e.cells.lookup x.1).getD 0) :: cs else cs) acc →
    q ∈ acc ∨ ((q.1, NameKind.free) ∈ names ∧ q.2 = (e.cells.lookup q.1).getD 0)
  | [], acc, q, h => .inl h
  | x :: r, acc, q, h => by
    rw [List.foldl_cons] at h
    rcases clOf_go r _ q h with h | h
    · by_cases hx : x.2 = .free
      · simp only [hx, beq_self_eq_true, if_true] at h
        rcases List.mem_cons.mp h with rfl | h
        · refine .inr ⟨?_, rfl⟩
          obtain ⟨a, b⟩ := x
          dsimp only at hx; subst hx
          exact List.mem_cons_self
        · exact .inl h
      · have : (x.2 == NameKind.free) = false := by simpa using hx
        simp only [this, Bool.false_eq_true, if_false] at h
        exact .inl h
    · exact .inr ⟨List.mem_cons_of_mem _ h.1, h.2⟩
theorem clOf_mem {e : Env} : ∀ (names : List (Str × NameKind)) (acc : List (Str × Addr)) (x : Str), ((x, NameKind.free) ∈ names ∨ ∃ c, (x, c) ∈ acc) →
    ∃ c, (x, c) ∈ names.foldl (fun cs x => if x.2 == .free then (x.1, (e.cells.lookup x.1).getD 0) :: cs else cs) acc
  | [], acc, x, h => by
    rcases h with h | h
    · cases h
    · exact h
  | y :: r, acc, x, h => by
    rw [List.foldl_cons]
    refine clOf_mem r _ x ?_
    rcases h with h | ⟨c, h⟩
    · rcases List.mem_cons.mp h with rfl | h
      · right; exact ⟨(e.cells.lookup x).getD 0, by simp⟩
      · exact .inl h
    · right
      split
      · exact ⟨c, List.mem_cons_of_mem _ h⟩
      · exact ⟨c, h⟩
theorem clOf_lookup {scope : Scope} {e : Env} {x : Str} {c : Addr} (hx : (x, NameKind.free) ∈ scope.names) (hc : e.cells.lookup x = some c) : (clOf scope e).lookup x = some c := by
  obtain ⟨c', hm⟩ := clOf_mem (e := e) scope.names [] x (.inl hx)
  cases q : (clOf scope e).lookup x with
  | none =>
    have hk : (clOf scope e).lookup x ≠ none := by
      intro hn
      have := List.lookup_eq_none_iff.mp hn _ hm
      simp at this
    exact absurd q hk
  | some a =>
    rcases clOf_go scope.names [] _ (mem_of_lookup q) with h | h
    · cases h
    · have h2 : a = (e.cells.lookup x).getD 0 := h.2
      rw [h2, hc]; rfl
theorem clOf_sub {scope : Scope} {e : Env} (ok : CompOk scope e) {q : Str × Addr} (h : q ∈ clOf scope e) : q ∈ e.cells := by
  rcases clOf_go scope.names [] _ h with h | ⟨h1, h2⟩
  · cases h
  · obtain ⟨c, hc⟩ := ok.fr _ h1 rfl
    rw [hc] at h2
    obtain ⟨a, b⟩ := q
    dsimp only [Option.getD_some] at h2 hc ⊢; subst h2
    exact mem_of_lookup hc
theorem clOf_keys {e : Env} : ∀ (names : List (Str × NameKind)) (acc : List (Str × Addr)), (names.map (·.1)).Nodup → (acc.map (·.1)).Nodup → (∀ x ∈ names, x.1 ∉ acc.map (·.1)) →
    ((names.foldl (fun cs x => if x.2 == .free then (x.1, (e.cells.lookup x.1).getD 0) :: cs else cs) acc).map (·.1)).Nodup
  | [], acc, _, h, _ => h
  | y :: r, acc, h1, h2, h3 => by
    rw [List.foldl_cons]
    rw [List.map_cons, List.nodup_cons] at h1
    refine clOf_keys r _ h1.2 ?_ ?_
    · split
      · rw [List.map_cons, List.nodup_cons]; exact ⟨h3 y List.mem_cons_self, h2⟩
      · exact h2
    · intro x hx
      split
      · rw [List.map_cons, List.mem_cons, not_or]
        exact ⟨fun q => h1.1 (q ▸ List.mem_map_of_mem hx), h3 x (List.mem_cons_of_mem _ hx)⟩
      · exact h3 x (List.mem_cons_of_mem _ hx)
theorem pairwise_of_keys {cs : List (Str × Addr)} (hc : cs.Pairwise fun x y => x.2 ≠ y.2) : ∀ {l : List (Str × Addr)}, (∀ q ∈ l, q ∈ cs) → (l.map (·.1)).Nodup → l.Pairwise fun x y => x.2 ≠ y.2
  | [], _, _ => .nil
  | x :: l, h, nd => by
    rw [List.map_cons, List.nodup_cons] at nd
    refine .cons (fun y hy q => ?_) (pairwise_of_keys hc (fun q hq => h q (List.mem_cons_of_mem _ hq)) nd.2)
    have := name_of_addr hc (h x List.mem_cons_self) (show (y.1, x.2) ∈ cs by rw [q]; exact h y (List.mem_cons_of_mem _ hy))
    exact nd.1 (this ▸ List.mem_map_of_mem hy)

noncomputable abbrev cEnv (scope : Scope) (e : Env) (C : Addr) : Env := compEnvC scope (clOf scope e) C e

theorem relabel_free {e : Env} : ∀ {names : List (Str × NameKind)} {x : Str}, names.lookup x = some .free →
    (names.map fun (n, k) => if (k == NameKind.free && e.scope.kind == .function && e.kindOf n == some .cell) then (n, NameKind.cell) else (n, k)).lookup x = some .cell ∨
    (names.map fun (n, k) => if (k == NameKind.free && e.scope.kind == .function && e.kindOf n == some .cell) then (n, NameKind.cell) else (n, k)).lookup x = some .free
  | [], _, h => by simp at h
  | (n, k) :: r, x, h => by
    have ih := @relabel_free e r x
    rw [List.map_cons]
    cases hx : x == n with
    | true =>
      simp only [List.lookup_cons, hx] at h
      cases h
      dsimp only
      by_cases hc : (NameKind.free == NameKind.free && e.scope.kind == .function && e.kindOf n == some .cell) = true
      · rw [if_pos hc]; left; simp [List.lookup_cons, hx]
      · rw [if_neg hc]; right; simp [List.lookup_cons, hx]
    | false =>
      simp only [List.lookup_cons, hx] at h
      have : ∀ (k' : NameKind) (l : List (Str × NameKind)), List.lookup x ((n, k') :: l) = List.lookup x l := fun k' l => by simp only [List.lookup_cons, hx]
      dsimp only
      by_cases hc : (k == NameKind.free && e.scope.kind == .function && e.kindOf n == some .cell) = true
      · rw [if_pos hc, this]; exact ih h
      · rw [if_neg hc, this]; exact ih h


end Mine

namespace Mine
open PySem PySem.W PyProof.Rows

section
variable {w : World} {A : Around} {s₀ : Shared} {Mu : List Addr} {e : Env} {X : List Addr} {Ow : Owns} {Γ : List (Str × Dt)} {s : Shared}

theorem GEnv.comp {scope : Scope} (g : GEnv e) (ok : scope.kind = .function) (C : Addr) : GEnv (cEnv scope e C) := ⟨g.g, g.b, ok⟩

/-- the comprehension's turns, and what they leave -/
theorem comp_core {elt target iter : Expr} {ifs : List Expr} {scope : Scope} {pos : Pos} {src : List Dt} {own : Bool} {Γc : List (Str × Dt)} {Γd : Dt → List (Str × Dt)} {p : Dt → Bool} {g : Dt → Dt} {s s₂ : Shared} {it : Value}
    {RR : Value → Addr → Result → Shared → Prop} {E : Value → Shared → Prop}
    (ok : CompOk scope e) (cx : Cx w e X Ow Γ s) (md : Made w A X target src own s it s₂) (hlen : src.length ≤ sizeLine)
    (hc : ∀ q ∈ Γc, q ∈ Γ ∧ scope.names.lookup q.1 = some .free ∧ e.kindOf q.1 ≠ some .local)
    (bind : ∀ C X', (∀ a ∈ X, a ∈ X') → ∀ d ∈ src, ∀ s' v, Fs w (cEnv scope e C) X' Ow Γc s' → Is s'.heap X' d v →
      wpAny (model pw w) A (assign target (cEnv scope e C) v) (fun _ s₂ => Fs w (cEnv scope e C) X' Ow (Γd d ++ Γc) s₂ ∧ Kw [C] s' s₂) Bot s')
    (tests : ∀ C X', (∀ a ∈ X, a ∈ X') → ∀ d ∈ src, ∀ s', Cx w (cEnv scope e C) X' Ow (Γd d ++ Γc) s' →
      wpAny (model pw w) A (forIn ifs true fun c r => if r = true then do let ok ← isTrue c (cEnv scope e C) (eval c (cEnv scope e C)); pure (ForInStep.yield ok) else pure (ForInStep.yield r)) (fun ok s₃ => Kp s' s₃ ∧ ok = p d) Bot s')
    (elts : ∀ C X', (∀ a ∈ X, a ∈ X') → ∀ d ∈ src, p d = true → Ev w A (cEnv scope e C) X' Ow (Γd d ++ Γc) elt (g d))
    (hRR : ∀ D C s' m', s₂.heap.get? D = none → s₂.heap.get? C = none → D ≠ C → s'.heap.Ns C m' → Is s'.heap (C :: X) (.lst ((src.filter p).map g)) (.ref D) → (∃ h tk, s' = { s₂ with heap := h, toks := tk }) → s₂.toks ≤ s'.toks →
      (∀ b o, s.heap.get? b = some o → s'.heap.get? b = some o) → RR (.ref D) C (.ok .next) s') :
    wpAny (model pw w) A (newList []) (fun acc s₃ => wpAny (model pw w) A (newFunctionEnv scope e.globals (clOf scope e) [] e.qual none .none (some e)) (fun cenv s₄ =>
      codeAny (model pw w) A (.compStart (.ListComp elt [⟨target, iter, ifs, 0⟩] scope pos) 0 it acc { cenv with scope := relabel scope e }) (RR acc cenv.locals) s₄) E s₃) E s₂ := by
  obtain ⟨k, I, fp, wr, rfl, hw, _, hY⟩ := md
  refine wpAny_newObj_type (wpAny_newFunctionEnv ok.nc (by intro y hy; simp at hy) (fun h₁ hns₁ hsb₁ => ?_) ok.kd)
  dsimp only at hns₁ hsb₁ ⊢
  generalize hD : s₂.heap.objs.size = D at hns₁ hsb₁ ⊢
  generalize hH2 : s₂.heap.push { cls := .type "list", dict := none, data := .seq ([] : List Value).toArray } = H2 at hns₁ hsb₁ ⊢
  generalize hC : H2.objs.size = C at hns₁ hsb₁ ⊢
  have hCv : C = D + 1 := by rw [← hC, ← hH2, Heap.size_push, hD]
  have noneAt : ∀ a, D ≤ a → s₂.heap.get? a = none := fun a ha => by
    cases q : s₂.heap.get? a with
    | none => rfl
    | some o => exact absurd (Heap.lt_size q) (Nat.not_lt.mpr (hD ▸ ha))
  have hDn := noneAt D (Nat.le_refl _)
  have hCn := noneAt C (by rw [hCv]; exact Nat.le_succ _)
  have hDC : D ≠ C := by rw [hCv]; exact Nat.ne_of_lt (Nat.lt_succ_self _)
  have up₁ : ∀ b o, s₂.heap.get? b = some o → h₁.get? b = some o := fun b o ho => by
    have hb : b ≠ C := fun q => by rw [q, hCn] at ho; cases ho
    refine hsb₁.extBut b o hb (Heap.get?_push_of_some _ ?_)
    rw [← hH2]; exact Heap.get?_push_of_some _ ho
  have hacc : h₁.PlainList D #[] := ⟨0, hsb₁.extBut _ _ hDC (Heap.get?_push_of_some _ (by rw [← hH2, ← hD]; exact Heap.get?_push_size _ rfl))⟩
  obtain ⟨St, Mid, W, st⟩ := hY [C, D] (fun b hb => by
    rcases List.mem_cons.mp hb with rfl | hb
    · exact hCn
    · rw [List.mem_singleton.mp hb]; exact hDn)
  have hfpn : ∀ b ∈ fp, b ≠ C ∧ b ≠ D := fun b hb => by
    obtain ⟨o, ho⟩ := W.live 0 _ st b hb
    exact ⟨fun q => (by rw [q, hCn] at ho; cases ho), fun q => (by rw [q, hDn] at ho; cases ho)⟩
  have cxs : ∀ {s' : Shared}, True := trivial
  let X' := wr ++ ([C, D] ++ X)
  have subX : ∀ a ∈ X, a ∈ X' := fun a ha => List.mem_append_right _ (List.mem_append_right _ ha)
  have hCX : C ∈ X' := List.mem_append_right _ (List.mem_append_left _ (List.mem_cons_self))
  have hDX : D ∈ X' := List.mem_append_right _ (List.mem_append_left _ (List.mem_cons_of_mem _ List.mem_cons_self))
  have oldX : ∀ b o, b ∉ X → s.heap.get? b = some o → b ∉ X' := fun b o hb ho hm => by
    rcases List.mem_append.mp hm with hm | hm
    · rw [hw b hm] at ho; cases ho
    · rcases List.mem_append.mp hm with hm | hm
      · have h2 := k.ext b o ho
        rcases List.mem_cons.mp hm with rfl | hm
        · rw [hCn] at h2; cases h2
        · rw [List.mem_singleton.mp hm, hDn] at h2; cases h2
      · exact hb hm
  have up : ∀ b o, s.heap.get? b = some o → h₁.get? b = some o := fun b o ho => up₁ b o (k.ext b o ho)
  have st₁ : St 0 h₁ := W.frame _ _ _ st fun b o _ ho => up₁ b o ho
  have out : ∀ b o, b ∉ X → s.heap.get? b = some o → h₁.get? b = some o ∧ b ∉ X' := fun b o hb ho => ⟨up b o ho, oldX b o hb ho⟩
  have sOld : ∀ {b : Addr}, (b = C ∨ b = D ∨ b ∈ wr) → s.heap.get? b = none := fun {b} h => by
    rcases h with rfl | rfl | h
    · exact none_back k hCn
    · exact none_back k hDn
    · exact hw b h
  have kno : ∀ {b : Addr}, s.heap.get? b = none → (KK w.params).lookup b = none := fun {b} h => by
    cases q : (KK w.params).lookup b with
    | none => rfl
    | some o => rw [cx.wd b o q] at h; cases h
  have G0 : ∀ (tk : Nat), s₂.toks ≤ tk → Fs w (cEnv scope e C) X' Ow Γc { s₂ with heap := h₁, toks := tk }   := fun tk htk => by
    refine { tk := Nat.lt_of_lt_of_le (Nat.lt_of_lt_of_le cx.tk k.tk) htk, wd := fun a o ho => up a o (cx.wd a o ho), xin := fun a ha => ?_, ow := fun q hq => ?_, vars := fun q hq => ?_, cl := fun q hq => ?_, cx := fun q hq => subX _ (cx.cx q (clOf_sub ok hq)), ap := pairwise_of_keys cx.ap (fun q hq => clOf_sub ok hq) (clOf_keys scope.names [] ok.nd (by simp) (by simp)), wc := fun q hq => cx.wc q (clOf_sub ok hq), ns := ⟨_, hns₁⟩, lx := hCX, wl := kno (sOld (.inl rfl)) }
    · rcases List.mem_append.mp ha with ha | ha
      · obtain ⟨o, ho⟩ := W.live 0 _ st₁ a (W.sub a ha); exact ⟨o, ho⟩
      · rcases List.mem_append.mp ha with ha | ha
        · rcases List.mem_cons.mp ha with rfl | ha
          · obtain ⟨o, _, _, ho, _⟩ := hns₁; exact ⟨o, ho⟩
          · rw [List.mem_singleton.mp ha]; obtain ⟨n, ho⟩ := hacc; exact ⟨_, ho⟩
        · obtain ⟨o, ho⟩ := cx.xin a ha; exact ⟨o, up a o ho⟩
    · obtain ⟨a, vs, b, c⟩ := cx.ow q hq
      exact ⟨subX _ a, vs, b.at fun o ho => up _ o ho, c.ext out⟩
    · obtain ⟨h1, h2, h3⟩ := hc q hq
      obtain ⟨v, hv, hi⟩ := cx.vars q h1
      refine ⟨v, ?_, hi.ext out⟩
      rcases hv with ⟨a, _⟩ | ⟨a, b, c, hcl, hcc⟩
      · exact absurd a h3
      · refine .inr ⟨?_, b, c, clOf_lookup (mem_of_lookup h2) hcl, hcc.keeps up⟩
        exact relabel_free h2
    · obtain ⟨v, hv⟩ := cx.cl q (clOf_sub ok hq)
      exact ⟨v, hv.keeps up⟩
  have loop : ∀ s₃ : Shared, (∃ tk, s₂.toks ≤ tk ∧ s₃ = { s₂ with heap := h₁, toks := tk }) →
      codeAny (model pw w) A (.compLoop (.ListComp elt [⟨target, iter, ifs, 0⟩] scope pos) 0 (.ref I) (.ref D) (cEnv scope e C)) (RR (.ref D) C) s₃ := by
    rintro s₃ ⟨tk, htk, rfl⟩
    refine codeAny_loop rfl (fun n s' => ∃ i ys, n = src.length + 1 - i ∧ i ≤ src.length ∧ St i s'.heap ∧ s'.heap.PlainList D (List.toArray ys) ∧ IsAll s'.heap X' (((src.take i).filter p).map g) ys ∧ Fs w (cEnv scope e C) X' Ow Γc s' ∧
      s₂.toks ≤ s'.toks ∧ (∃ h tk, s' = { s₂ with heap := h, toks := tk }) ∧ ∀ b o, b ≠ C → b ≠ D → b ∉ wr → s₂.heap.get? b = some o → s'.heap.get? b = some o) (fun n s' hI => ?_) (src.length + 1)
      ⟨0, [], by simp, Nat.zero_le _, st₁, hacc, by simp [IsAll], G0 tk htk, htk, ⟨_, _, rfl⟩, fun b o _ _ _ ho => up₁ b o ho⟩
    obtain ⟨i, ys, rfl, hi, st', acc', ys', G, tks, same', kk⟩ := hI
    show wpAny _ A ((compTurn (.ListComp elt [⟨target, iter, ifs, 0⟩] scope pos) 0 (.ref I) (.ref D) (cEnv scope e C)).onRaise (fun x => do noteFrame x (cEnv scope e C); theTreesLotGoes x)) _ _ s'
    refine wpAny_noted ?_
    rw [compTurn_list]
    refine wpAny_bind (wpAny_standAt (wpAny_bind ?_))
    have wrC : C ∉ wr := fun h => (hfpn C (W.sub C h)).1 rfl
    have wrD : D ∉ wr := fun h => (hfpn D (W.sub D h)).2 rfl
    have wne : ∀ b ∈ wr, b ≠ (cEnv scope e C).locals ∧ (∀ q ∈ (cEnv scope e C).cells, b ≠ q.2) ∧ (∀ q ∈ Ow, b ≠ q.1) ∧ (KK w.params).lookup b = none := fun b hb => by
      have hn := hw b hb
      refine ⟨fun q => wrC (by have q' : b = C := q; rw [← q']; exact hb), fun q hq z => ?_, fun q hq z => ?_, kno hn⟩
      · obtain ⟨v, o, ho, _⟩ := cx.cl q (clOf_sub ok hq); rw [← z] at ho; exact not_old hn ho
      · obtain ⟨_, vs, ⟨n, ho⟩, _⟩ := cx.ow q hq; rw [← z] at ho; exact not_old hn ho
    by_cases hlt : i < src.length
    · have hd : src[i]? = some src[i] := List.getElem?_eq_getElem hlt
      have hmem : src[i] ∈ src := List.getElem_mem hlt
      refine wpb (W.item i _ s' hd st' G.xin) fun r s₁' h => ?_
      obtain ⟨v, rfl, hv, st₁', kw₁⟩ := h
      refine wpAny_bind (wpb (W.go i s₁' v st₁') fun _ s₂' h => ?_)
      obtain ⟨kw₂, st₂'⟩ := h
      have kw := kw₁.trans kw₂
      have G₂ : Fs w (cEnv scope e C) X' Ow Γc s₂' := Fs.kw (X := [C, D] ++ X) (fp := fp) (I := I) (src := src) (St := St) (i := i) G wne kw fun b hb => W.live _ _ st₂' b (W.sub b hb)
      have hv₂ : Is s₂'.heap X' src[i] v := hv.ext fun b o hb ho => ⟨kw₂.keep b o (fun hm => hb (List.mem_append_left _ hm)) ho, hb⟩
      have outw : ∀ b o, b ∉ X' → s'.heap.get? b = some o → s₂'.heap.get? b = some o ∧ b ∉ X' := fun b o hb ho => ⟨kw.keep b o (fun hm => hb (List.mem_append_left _ hm)) ho, hb⟩
      refine wpAny_bind (wpb (bind C X' subX _ hmem s₂' v G₂ hv₂) fun _ s₃' h => ?_)
      obtain ⟨G₃, kb⟩ := h
      have outb : ∀ b o, b ∉ X' → s₂'.heap.get? b = some o → s₃'.heap.get? b = some o ∧ b ∉ X' := fun b o hb ho => ⟨kb.keep b o (by simp only [List.mem_singleton]; rintro rfl; exact hb hCX) ho, hb⟩
      have kbD : ∀ o, s₂'.heap.get? D = some o → s₃'.heap.get? D = some o := fun o ho => kb.keep D o (by simpa using hDC) ho
      have fpC : ∀ b ∈ fp, b ∉ [C] := fun b hb => by simpa using (hfpn b hb).1
      have st₃' : St (i + 1) s₃'.heap := W.frame _ _ _ st₂' fun b o hb ho => kb.keep b o (by
        rcases hb with hb | hb
        · simp only [List.mem_singleton]; rintro rfl; exact hb hCX
        · exact fpC b hb) ho
      have acc₃ : s₃'.heap.PlainList D (List.toArray ys) := (acc'.at fun o ho => kw.keep D o wrD ho).at kbD
      have ys₃ : IsAll s₃'.heap X' (((src.take i).filter p).map g) ys := (ys'.ext outw).ext outb
      have kk₃ : ∀ b o, b ≠ C → b ≠ D → b ∉ wr → s₂.heap.get? b = some o → s₃'.heap.get? b = some o := fun b o h1 h2 h3 ho => kb.keep b o (by simpa using h1) (kw.keep b o h3 (kk b o h1 h2 h3 ho))
      have tks₃ : s₂.toks ≤ s₃'.toks := Nat.le_trans tks (Nat.le_trans kw.tk kb.tk)
      have same₃ : ∃ h tk, s₃' = { s₂ with heap := h, toks := tk } := by
        obtain ⟨h, t, e1⟩ := same'
        obtain ⟨h2, t2, e2⟩ := kw.same
        obtain ⟨h3, t3, e3⟩ := kb.same
        exact ⟨h3, t3, by rw [e3, e2, e1]⟩
      refine wpAny_bind (wpb (tests C X' subX _ hmem s₃' G₃.toCx) fun okv s₄' h => ?_)
      obtain ⟨k₄, rfl⟩ := h
      have takeS : (src.take (i + 1)).filter p = (src.take i).filter p ++ (if p src[i] then [src[i]] else []) := by
        rw [List.take_add_one, hd]
        simp only [Option.toList_some, List.filter_append, List.filter_cons, List.filter_nil]
      have same₄ : ∀ {s₅ : Shared}, Kp s₃' s₅ → ∃ h tk, s₅ = { s₂ with heap := h, toks := tk } := fun {s₅} k => by
        obtain ⟨h, t, e1⟩ := same₃
        obtain ⟨h2, t2, e2, _⟩ := k.k
        exact ⟨h2, t2, by rw [e2, e1]⟩
      cases hp : p src[i] with
      | false =>
        simp only [Bool.false_eq_true, if_false]
        refine wpAny_pure ⟨rfl, src.length + 1 - (i + 1), by omega, i + 1, ys, rfl, hlt, W.frame _ _ _ st₃' fun b o _ ho => k₄.ext b o ho, acc₃.at fun o ho => k₄.ext _ o ho, ?_, (G₃.kp k₄).weaken (fun q hq => List.mem_append_right _ hq), Nat.le_trans tks₃ k₄.tk, same₄ k₄, fun b o h1 h2 h3 ho => k₄.ext b o (kk₃ b o h1 h2 h3 ho)⟩
        rw [takeS, hp]
        simpa using ys₃.keep k₄.ext
      | true =>
        simp only [if_true]
        refine wpAny_bind (wpAny_bind ((elts C X' subX _ hmem hp).use (G₃.toCx.keep k₄) fun y s₅' k₅ c₅ hy => ?_))
        have k₄₅ := k₄.trans k₅
        have hys : (List.toArray ys).size ≤ sizeLine := by
          have e1 := ys₃.length
          have e2 : ((src.take i).filter p).length ≤ (src.take i).length := List.length_filter_le _ _
          have e3 : (src.take i).length ≤ src.length := by rw [List.length_take]; omega
          rw [List.size_toArray, e1, List.length_map]; omega
        refine wpAny_bind (wpAny_list_append_plain (hsz := hys) (acc₃.at fun o ho => k₄₅.ext _ o ho) fun h₅ hl₅ hs₅ => ?_)
        refine wpAny_pure (wpAny_pure ⟨rfl, src.length + 1 - (i + 1), by omega, i + 1, ys ++ [y], rfl, hlt, W.frame _ _ _ st₃' fun b o hb ho => ?_, by simpa using hl₅, ?_, ?_, Nat.le_trans tks₃ k₄₅.tk, ?_, fun b o h1 h2 h3 ho => SameBut.back hs₅ h2 (k₄₅.ext b o (kk₃ b o h1 h2 h3 ho))⟩)
        · refine SameBut.back hs₅ (fun q => ?_) (k₄₅.ext b o ho)
          rcases hb with hb | hb
          · exact hb (by rw [q]; exact hDX)
          · exact (hfpn b hb).2 q
        · rw [takeS, hp]
          simp only [if_true, List.map_append, List.map_cons, List.map_nil]
          have outD : ∀ b o, b ∉ X' → s₅'.heap.get? b = some o → h₅.get? b = some o ∧ b ∉ X' := fun b o hb ho => ⟨SameBut.back hs₅ (fun q => hb (q ▸ hDX)) ho, hb⟩
          refine IsAll.append ((ys₃.keep k₄₅.ext).ext outD) ?_
          simp only [IsAll]
          exact ⟨y, [], rfl, hy.ext outD, rfl⟩
        · have G₅ := (G₃.kp k₄₅).weaken (Γ' := Γc) (fun q hq => List.mem_append_right _ hq)
          have upD : ∀ b o, b ≠ D → s₅'.heap.get? b = some o → h₅.get? b = some o := fun b o hb ho => SameBut.back hs₅ hb ho
          have oldD : ∀ {b : Addr}, b = D → s.heap.get? b = none := fun {b} q => sOld (.inr (.inl q))
          have outD : ∀ b o, b ∉ X' → s₅'.heap.get? b = some o → h₅.get? b = some o ∧ b ∉ X' := fun b o hb ho => ⟨upD b o (fun q => hb (q ▸ hDX)) ho, hb⟩
          have cellD : ∀ q ∈ (cEnv scope e C).cells, q.2 ≠ D := fun q hq z => by
            obtain ⟨v, o, ho, _⟩ := cx.cl q (clOf_sub ok hq); rw [z] at ho; exact not_old (oldD rfl) ho
          exact { wd := fun a o h => upD a o (fun q => by have := kno (oldD q); rw [this] at h; cases h) (G₅.wd a o h),
                  xin := fun a ha => (by
                    by_cases q : a = D
                    · obtain ⟨n, h⟩ := hl₅; exact ⟨_, q ▸ h⟩
                    · obtain ⟨o, h⟩ := G₅.xin a ha; exact ⟨o, upD a o q h⟩),
                  ow := fun q hq => (by
                    obtain ⟨a, vs, b, c⟩ := G₅.ow q hq
                    refine ⟨a, vs, b.at fun o h => upD _ o (fun z => ?_) h, c.ext outD⟩
                    obtain ⟨_, vs', ⟨n, h'⟩, _⟩ := cx.ow q hq
                    rw [z] at h'; exact not_old (oldD rfl) h'),
                  vars := fun q hq => (by
                    obtain ⟨v, a, b⟩ := G₅.vars q hq
                    refine ⟨v, ?_, b.ext outD⟩
                    rcases a with ⟨a, m, ⟨o, es, ep, h, r⟩, c⟩ | ⟨a, b, cc, c, o, h, hd⟩
                    · exact .inl ⟨a, m, ⟨o, es, ep, upD _ o (Ne.symm hDC) h, r⟩, c⟩
                    · exact .inr ⟨a, b, cc, c, o, upD _ o (cellD _ (mem_of_lookup c)) h, hd⟩),
                  cl := fun q hq => (let ⟨v, o, h, hd⟩ := G₅.cl q hq; ⟨v, o, upD _ o (cellD q hq) h, hd⟩), cx := G₅.cx, ap := G₅.ap, wc := G₅.wc,
                  ns := (let ⟨m, o, es, ep, h, r⟩ := G₅.ns; ⟨m, o, es, ep, upD _ o (Ne.symm hDC) h, r⟩), lx := G₅.lx, wl := G₅.wl, tk := G₅.tk }
        · obtain ⟨h, t, e1⟩ := same₄ k₄₅
          exact ⟨h₅, t, by rw [e1]⟩
    · have hin : i = src.length := by omega
      subst hin
      refine wpb (W.done s' st') fun r s₁' h => ?_
      obtain ⟨rfl, kw₁⟩ := h
      obtain ⟨m, hm⟩ := G.ns
      refine wpAny_pure (hRR D C s₁' m hDn hCn hDC (let ⟨o, es, ep, h, r⟩ := hm; ⟨o, es, ep, kw₁.keep _ o wrC h, r⟩) ?_ ?_ (Nat.le_trans tks kw₁.tk) fun b o ho => ?_)
      · simp only [Is]
        have hDCX : D ∉ C :: X := fun hm => by
          rcases List.mem_cons.mp hm with q | q
          · exact hDC q
          · obtain ⟨o, h⟩ := cx.xin D q; exact not_old (sOld (.inr (.inl rfl))) h
        refine ⟨D, ys, rfl, hDCX, acc'.at fun o ho => kw₁.keep D o wrD ho, ?_⟩
        rw [List.take_length] at ys'
        refine ys'.ext fun b o hb ho => ⟨kw₁.keep b o (fun hm => hb (List.mem_append_left _ hm)) ho, fun hm => ?_⟩
        rcases List.mem_cons.mp hm with rfl | hm
        · exact hb hCX
        · exact hb (subX b hm)
      · obtain ⟨h, t, e1⟩ := same'
        obtain ⟨h2, t2, e2⟩ := kw₁.same
        exact ⟨h2, t2, by rw [e2, e1]⟩
      · have hne : ∀ {b : Addr}, (b = C ∨ b = D ∨ b ∈ wr) → s.heap.get? b = some o → False := fun {b} h ho => not_old (sOld h) ho
        exact kw₁.keep b o (fun q => hne (.inr (.inr q)) ho) (kk b o (fun q => hne (.inl q) ho) (fun q => hne (.inr (.inl q)) ho) (fun q => hne (.inr (.inr q)) ho) (k.ext b o ho))
  exact codeAny_compStart_list (loop _ ⟨_, Nat.le_refl _, rfl⟩) (wpb (W.self 0 _ st₁) fun v s' ⟨hv, hs'⟩ => by subst hv; subst hs'; exact loop _ ⟨_, Nat.le_refl _, rfl⟩)
end
end Mine

namespace Mine
open PySem PySem.W PyProof.Rows

section
variable {w : World} {A : Around} {s₀ : Shared} {Mu : List Addr} {e : Env} {X : List Addr} {Ow : Owns} {Γ : List (Str × Dt)} {s : Shared}

theorem CompOk.of {scope : Scope} (hcells : ∀ x, e.kindOf x = some .cell → ∃ c, e.cells.lookup x = some c)
    (kd : scope.kind = .function) (nd : (scope.names.map (·.1)).Nodup)
    (ch : scope.names.all (fun x => x.2 != .cell && (x.2 != .free || e.scope.names.lookup x.1 == some .cell)) = true) : CompOk scope e := by
  refine ⟨kd, fun x hx q => ?_, nd, fun x hx q => hcells _ ?_⟩
  · have := List.all_eq_true.mp ch x hx
    simp [q] at this
  · have := List.all_eq_true.mp ch x hx
    simp [q] at this
    exact this

theorem Is.outOf {h h' : Heap} {C : Addr} {d : Dt} {v : Value} (i : Is h (C :: X) d v) (hs : Heap.SameBut C h h') : Is h' X d v :=
  i.ext fun b o hb ho => ⟨SameBut.back hs (fun q => hb (q ▸ List.mem_cons_self)) ho, fun hm => hb (List.mem_cons_of_mem _ hm)⟩

theorem Ev.comp {elt target iter : Expr} {ifs : List Expr} {scope : Scope} {pos : Pos} {src : List Dt} {own : Bool} {Γc : List (Str × Dt)} {Γd : Dt → List (Str × Dt)} {p : Dt → Bool} {g : Dt → Dt}
    (ok : CompOk scope e) (hn : ∀ x ∈ scope.names, x.2 = .local → scope.names.lookup x.1 = some .local) (hit : EvIt w A e X Ow Γ target iter own src) (hlen : src.length ≤ sizeLine)
    (hc : ∀ q ∈ Γc, q ∈ Γ ∧ scope.names.lookup q.1 = some .free ∧ e.kindOf q.1 ≠ some .local)
    (bind : ∀ C X', (∀ a ∈ X, a ∈ X') → ∀ d ∈ src, ∀ s' v, Fs w (cEnv scope e C) X' Ow Γc s' → Is s'.heap X' d v →
      wpAny (model pw w) A (PySem.assign target (cEnv scope e C) v) (fun _ s₂ => Fs w (cEnv scope e C) X' Ow (Γd d ++ Γc) s₂ ∧ Kw [C] s' s₂) Bot s')
    (tests : ∀ C X', (∀ a ∈ X, a ∈ X') → ∀ d ∈ src, ∀ s', Cx w (cEnv scope e C) X' Ow (Γd d ++ Γc) s' →
      wpAny (model pw w) A (forIn ifs true fun c r => if r = true then do let ok ← isTrue c (cEnv scope e C) (eval c (cEnv scope e C)); pure (ForInStep.yield ok) else pure (ForInStep.yield r)) (fun ok s₃ => Kp s' s₃ ∧ ok = p d) Bot s')
    (elts : ∀ C X', (∀ a ∈ X, a ∈ X') → ∀ d ∈ src, p d = true → Ev w A (cEnv scope e C) X' Ow (Γd d ++ Γc) elt (g d))
    (hs : ∀ x, foldedSetIterable iter e x = pure x := by intro _; rfl) :
    Ev w A e X Ow Γ (.ListComp elt [⟨target, iter, ifs, 0⟩] scope pos) (.lst ((src.filter p).map g)) := .mk fun s cx => by
  rw [eval_ListComp]
  refine wpAny_comprehension_free (use := Option.none) rfl hs (closure_is ok) ok.kd hn (wpb (hit.h s cx) fun x s₁ h₁ => wpb h₁ fun it s₂ md => ?_)
  have k := md.1
  refine comp_core (RR := fun acc C r s' => compPost (model pw w) A Bot Option.none (fun v s' => Kp s s' ∧ Is s'.heap X (.lst ((src.filter p).map g)) v) acc C r s') ok cx md hlen hc bind tests elts ?_
  intro D C s' m' hD hC hDC hm hi hsame htk hk
  refine ⟨m', hm, fun h' hs' => ⟨?_, hi.outOf hs'⟩⟩
  have tk' := Nat.le_trans k.tk htk
  obtain ⟨h, tk, rfl⟩ := hsame
  obtain ⟨hp, tkp, rfl, kk⟩ := k.k
  exact Kp.mk' (fun b o ho => SameBut.back hs' (by
    rintro rfl
    exact not_old (none_back k hC) ho) (hk b o ho)) tk'

theorem Fs.dropC {C : Addr} {h' : Heap} (F : Fs w e (C :: X) Ow Γ s) (hs : Heap.SameBut C s.heap h') (hX : C ∉ X) (hK : (KK w.params).lookup C = none) (hL : C ≠ e.locals) (hc : ∀ q ∈ e.cells, C ≠ q.2)
    (hl : e.locals ∈ X) (hcx : ∀ p ∈ e.cells, p.2 ∈ X) (ho : ∀ p ∈ Ow, p.1 ∈ X) : Fs w e X Ow Γ { s with heap := h' } := by
  have up : ∀ b o, b ≠ C → s.heap.get? b = some o → h'.get? b = some o := fun b o hb h => SameBut.back hs hb h
  have out : ∀ b o, b ∉ C :: X → s.heap.get? b = some o → h'.get? b = some o ∧ b ∉ X := fun b o hb h => ⟨up b o (fun q => hb (q ▸ List.mem_cons_self)) h, fun hm => hb (List.mem_cons_of_mem _ hm)⟩
  exact { wd := fun a o h => up a o (fun q => by rw [q, hK] at h; cases h) (F.wd a o h),
          xin := fun a ha => (let ⟨o, h⟩ := F.xin a (List.mem_cons_of_mem _ ha); ⟨o, up a o (fun q => hX (q ▸ ha)) h⟩),
          ow := fun p hp => (let ⟨_, vs, b, c⟩ := F.ow p hp; ⟨ho p hp, vs, b.at fun o h => up _ o (fun q => hX (q ▸ ho p hp)) h, c.ext out⟩),
          vars := fun p hp => (by
            obtain ⟨v, a, b⟩ := F.vars p hp
            refine ⟨v, ?_, b.ext out⟩
            rcases a with ⟨a, m, ⟨o, es, ep, h, r⟩, c⟩ | ⟨a, b, cc, c, o, h, hd⟩
            · exact .inl ⟨a, m, ⟨o, es, ep, up _ o (Ne.symm hL) h, r⟩, c⟩
            · exact .inr ⟨a, b, cc, c, o, up _ o (Ne.symm (hc _ (mem_of_lookup c))) h, hd⟩),
          ns := (let ⟨m, o, es, ep, h, r⟩ := F.ns; ⟨m, o, es, ep, up _ o (Ne.symm hL) h, r⟩),
          cl := fun p hp => (let ⟨v, o, h, hd⟩ := F.cl p hp; ⟨v, o, up _ o (Ne.symm (hc p hp)) h, hd⟩), lx := hl, cx := hcx, ap := F.ap, wc := F.wc, wl := F.wl, tk := F.tk }

/-- a name is given a comprehension's list -/
theorem Fn.assignComp {x : Str} {elt target iter : Expr} {ifs : List Expr} {scope : Scope} {px pos spos : Pos} {src : List Dt} {own : Bool} {Γc : List (Str × Dt)} {Γd : Dt → List (Str × Dt)} {p : Dt → Bool} {g : Dt → Dt}
    {Q : Flow → Shared → Prop} {E : Value → Shared → Prop} (F : Fn w s₀ Mu e X Ow Γ s)
    (ok : CompOk scope e) (hn : ∀ x ∈ scope.names, x.2 = .local → scope.names.lookup x.1 = some .local) (hit : EvIt w A e X Ow Γ target iter own src) (hlen : src.length ≤ sizeLine)
    (hc : ∀ q ∈ Γc, q ∈ Γ ∧ scope.names.lookup q.1 = some .free ∧ e.kindOf q.1 ≠ some .local)
    (bind : ∀ C X', (∀ a ∈ X, a ∈ X') → ∀ d ∈ src, ∀ s' v, Fs w (cEnv scope e C) X' Ow Γc s' → Is s'.heap X' d v →
      wpAny (model pw w) A (PySem.assign target (cEnv scope e C) v) (fun _ s₂ => Fs w (cEnv scope e C) X' Ow (Γd d ++ Γc) s₂ ∧ Kw [C] s' s₂) Bot s')
    (tests : ∀ C X', (∀ a ∈ X, a ∈ X') → ∀ d ∈ src, ∀ s', Cx w (cEnv scope e C) X' Ow (Γd d ++ Γc) s' →
      wpAny (model pw w) A (forIn ifs true fun c r => if r = true then do let ok ← isTrue c (cEnv scope e C) (eval c (cEnv scope e C)); pure (ForInStep.yield ok) else pure (ForInStep.yield r)) (fun ok s₃ => Kp s' s₃ ∧ ok = p d) Bot s')
    (elts : ∀ C X', (∀ a ∈ X, a ∈ X') → ∀ d ∈ src, p d = true → Ev w A (cEnv scope e C) X' Ow (Γd d ++ Γc) elt (g d))
    (hk : e.scope.kind = .function) (hx : e.kindOf x = some .local)
    (h : ∀ s', Fn w s₀ Mu e X Ow (upd Γ x (.lst ((src.filter p).map g))) s' → Q .next s')
    (hsw : swapsWith (.ListComp elt [⟨target, iter, ifs, 0⟩] scope pos) (some (.Name x px)) spos.line e = pure true := by rfl) 
    (hs : ∀ x, foldedSetIterable iter e x = pure x := by intro _; rfl) (hcd : (x == ("__classdict__" : Str)) = false := by rfl) :
    Wp w A (exec (.Assign [.Name x px] (.ListComp elt [⟨target, iter, ifs, 0⟩] scope pos) spos) e) Q E s := by
  refine .mk ?_
  have cx := F.toCx
  rw [exec_Assign_Name_used _ _ _ _ hsw]
  refine wpAny_bind (wpAny_standAt (wpAny_bind ?_))
  show wpAny _ A (do let _ ← comprehension (.ListComp elt [⟨target, iter, ifs, 0⟩] scope pos) scope e _ (newList []) false (eval iter e) (some (PySem.assign (.Name x px) e))) _ _ s
  refine wpAny_bind (wpAny_mono (wpAny_comprehension_free (use := some (PySem.assign (.Name x px) e)) (Q := fun _ s' => Q .next s') (E := E) rfl hs (closure_is ok) ok.kd hn
    (wpb (hit.h s cx) fun xv s₁ h₁ => wpb h₁ fun it s₂ md => ?_)) (fun _ s' hq => wpAny_pure (wpAny_pure hq)) fun _ _ e => e)
  have k := md.1
  refine comp_core (E := E) (RR := fun acc C r s' => compPost (model pw w) A E (some (PySem.assign (.Name x px) e)) (fun _ s' => Q .next s') acc C r s') ok cx md hlen hc bind tests elts ?_
  intro D C s' m' hD hC hDC hm hi hsame htk hkk
  show wpAny (model pw w) A (PySem.assign (.Name x px) e (.ref D)) (fun _ s'' => ∃ m, s''.heap.Ns C m ∧ ∀ h', Heap.SameBut C s''.heap h' → Q .next { s'' with heap := h' }) E s'
  refine wpAny_assign_Name ?_
  have hCs : s.heap.get? C = none := none_back k hC
  have k' : Kp s s' := by
    have tk' := Nat.le_trans k.tk htk
    obtain ⟨h, tk, rfl⟩ := hsame
    obtain ⟨hp, tkp, rfl, kk⟩ := k.k
    exact Kp.mk' hkk tk'
  have hCL : C ≠ e.locals := by
    rintro rfl
    obtain ⟨m, o, _, _, ho, _⟩ := F.ns
    exact not_old hCs ho
  have hCc : ∀ q ∈ e.cells, C ≠ q.2 := by
    rintro q hq rfl
    obtain ⟨v, o, ho, _⟩ := F.cl q hq
    exact not_old hCs ho
  have hCX : C ∉ X := fun hm => by
    obtain ⟨o, ho⟩ := F.xin C hm
    exact not_old hCs ho
  obtain ⟨om, es, ep, hCo, _⟩ := id hm
  -- C is left out as well
  have F' : Fn w s₀ Mu e (C :: X) Ow Γ s' := by
    have F1 := F.kp k'
    have out : ∀ b o, b ∉ X → s.heap.get? b = some o → s'.heap.get? b = some o ∧ b ∉ C :: X := fun b o hb ho => ⟨k'.ext b o ho, fun hm => by
      rcases List.mem_cons.mp hm with rfl | hm
      · exact not_old hCs ho
      · exact hb hm⟩
    exact { F1 with
      xin := fun a ha => (by rcases List.mem_cons.mp ha with rfl | ha; exact ⟨_, hCo⟩; exact F1.xin a ha),
      ow := fun p hp => (let ⟨a, vs, b, c⟩ := F.ow p hp; ⟨List.mem_cons_of_mem _ a, vs, b.at fun o h => k'.ext _ o h, c.ext out⟩),
      vars := fun p hp => (let ⟨v, a, b⟩ := F.vars p hp; ⟨v, a.keep k'.ext, b.ext out⟩),
      lx := List.mem_cons_of_mem _ F1.lx, cx := fun p hp => List.mem_cons_of_mem _ (F1.cx p hp) }
  have hK : (KK w.params).lookup C = none := by
    cases q : (KK w.params).lookup C with
    | none => rfl
    | some o => exact (not_old hCs (F.wd C o q)).elim
  refine F'.toFs.store hk hi (.inl hx) hcd fun s₃ G kb => ?_
  refine ⟨m', (let ⟨o, es, ep, h, r⟩ := hm; ⟨o, es, ep, kb.keep C o hCL hCc h, r⟩), fun h' hs' => h _ ?_⟩
  have G' := G.dropC hs' hCX hK hCL hCc F.lx F.cx (fun p hp => (F.ow p hp).1)
  obtain ⟨h1, t1, e1⟩ := F'.same
  obtain ⟨h2, t2, e2⟩ := kb.same
  refine ⟨G', Nat.le_trans F'.tk0 kb.tk, ⟨h', t2, by rw [e2, e1]⟩, fun b o hb eb => SameBut.back hs' ?_ (kb.keep b o (fun q => hb (q ▸ F.lm.1)) (fun p hp q => hb (q ▸ F.lm.2 p hp)) (F'.keep0 b o hb eb)), F.lm, F.oo⟩
  rintro rfl
  exact not_old hCs (F.keep0 _ o hb eb)
end
end Mine

namespace Mine
open PySem PySem.W PyProof.Rows

section
variable {w : World} {A : Around} {s₀ : Shared} {Mu : List Addr} {e : Env} {X : List Addr} {Ow : Owns} {Γ : List (Str × Dt)} {s : Shared}

/-! ## subscripts -/
noncomputable def tyOf : Dt → Option String
  | .lst _ => some "list"
  | .tup _ => some "tuple"
  | .str _ => some "str"
  | .bytes _ => some "bytes"
  | _ => none
theorem Is.ty {d : Dt} {v : Value} {T : String} (ht : tyOf d = some T) (i : Is s.heap X d v) : s.TypeIs v T := by
  cases d <;> simp [tyOf] at ht <;> subst ht <;> simp only [Is] at i
  · obtain ⟨t, rfl⟩ := i; exact typeIs_str _ _ _
  · obtain ⟨t, rfl⟩ := i; exact typeIs_bytes _ _ _
  · obtain ⟨a, vs, rfl, _, ht, _⟩ := i; exact IsTup.typeIs ht
  · obtain ⟨a, vs, rfl, _, ht, _⟩ := i; exact ht.isList.typeIs
theorem ty_lookup {d : Dt} {T : String} (ht : tyOf d = some T) : ∃ id, typeLookup (.type T) "__getitem__" = pure (some (.builtin id)) := by
  cases d <;> simp [tyOf] at ht <;> subst ht
  · exact ⟨_, slot_str_getitem.lookup⟩
  · exact ⟨_, FB.slot_bytes_getitem.lookup⟩
  · exact ⟨_, slot_tuple_getitem.lookup⟩
  · exact ⟨_, slot_list_getitem.lookup⟩
theorem sub_form (slice : Expr) (o i : Value) : ∃ ops, subscripted slice false o i = operate ops (getItem o i) := by
  unfold subscripted
  split
  · exact ⟨_, rfl⟩
  · contradiction
  · exact ⟨_, rfl⟩
theorem Ev.sub {value slice : Expr} {pos : Pos} {d₁ d₂ d : Dt} {T : String} (o : Op2 w A X getItem d₁ d₂ d) (hv : Ev w A e X Ow Γ value d₁) (hs : Ev w A e X Ow Γ slice d₂) (ht : tyOf d₁ = some T := by rfl) :
    Ev w A e X Ow Γ (.Subscript value slice pos) d := .mk fun s c => by
  obtain ⟨id, hl⟩ := ty_lookup ht
  refine Subscript_ (hv.use c fun a s₁ k₁ c₁ i₁ => hs.use c₁ fun b s₂ k₂ c₂ i₂ => ?_)
  obtain ⟨ops, hf⟩ := sub_form slice a b
  exact tail_any ((i₁.keep k₂.ext).ty ht) hl (wpb (o.h s₂ a b c₂.tk c₂.wd c₂.xin (i₁.keep k₂.ext) i₂) fun v s₃ ⟨k₃, i₃⟩ => ⟨(k₁.trans k₂).trans k₃, i₃⟩) hf
theorem seqIndex_cases {i : Int} {n j : Nat} (h : seqIndex? i n = some j) : (i < 0 ∧ -(n : Int) ≤ i ∧ j = (i + n).toNat) ∨ (0 ≤ i ∧ i < n ∧ j = i.toNat) := by
  unfold seqIndex? at h
  simp only at h
  by_cases h0 : i < 0
  · simp only [h0, if_true] at h
    split at h
    · rename_i hc
      simp only [Bool.and_eq_true, decide_eq_true_eq] at hc
      have := Option.some.inj h
      exact .inl ⟨h0, by omega, this.symm⟩
    · cases h
  · simp only [h0, if_false] at h
    split at h
    · rename_i hc
      simp only [Bool.and_eq_true, decide_eq_true_eq] at hc
      have := Option.some.inj h
      exact .inr ⟨by omega, by omega, this.symm⟩
    · cases h
theorem seqIndex_range {i : Int} {n j : Nat} (h : seqIndex? i n = some j) : -(n : Int) ≤ i ∧ i < n ∧ j < n := by
  rcases seqIndex_cases h with ⟨a, b, c⟩ | ⟨a, b, c⟩ <;> omega
theorem getItem_seq {a : Addr} {vs : List Value} {i : Int} {t : Tok} {j : Nat} {v : Value} {Q : Value → Shared → Prop} {E : Value → Shared → Prop} (hl : s.heap.PlainList a vs.toArray) (hj : seqIndex? i vs.length = some j) (hv : vs[j]? = some v)
    (hn : vs.length < 2 ^ 62) (h : Q v s) : wpAny (model pw w) A (getItem (.ref a) (.int i t)) Q E s := by
  rcases seqIndex_cases hj with ⟨h0, h1, rfl⟩ | ⟨h0, h1, rfl⟩
  · exact wpAny_getItem_list_neg hl.isList h0 (by simpa using h1) (by omega) (x := v) (by simpa using hv) h
  · exact wpAny_getItem_list hl.isList h0 (by omega) (x := v) (by simpa using hv) h
/-- an item of a list of the frame's own -/
theorem Ev.subOwn {value slice : Expr} {pos : Pos} {a : Addr} {ds : List Dt} {i : Int} {j : Nat} {d : Dt} (hm : (a, ds) ∈ Ow) (hv : Ev w A e X Ow Γ value (.own a)) (hs : Ev w A e X Ow Γ slice (.int i))
    (hj : seqIndex? i ds.length = some j) (hd : ds[j]? = some d) (hn : ds.length < 2 ^ 62) : Ev w A e X Ow Γ (.Subscript value slice pos) d := .mk fun s c => by
  refine Subscript_ (hv.use c fun a' s₁ k₁ c₁ i₁ => hs.use c₁ fun b s₂ k₂ c₂ i₂ => ?_)
  simp only [Is] at i₁ i₂
  obtain ⟨t, rfl⟩ := i₂
  subst i₁
  obtain ⟨_, vs, hl, hi⟩ := c₂.ow _ hm
  obtain ⟨v, hv', hiv⟩ := hi.nth hd
  have hlen := hi.length
  obtain ⟨ops, hf⟩ := sub_form slice (.ref a) (.int i t)
  exact tail_any hl.isList.typeIs slot_list_getitem.lookup (getItem_seq hl (by rw [hlen]; exact hj) hv' (by rw [hlen]; exact hn) ⟨k₁.trans k₂, hiv⟩) hf
theorem Op2.idxL {ds : List Dt} {i : Int} {j : Nat} {d : Dt} (hj : seqIndex? i ds.length = some j) (hd : ds[j]? = some d) (hn : ds.length < 2 ^ 62) : Op2 w A X getItem (.lst ds) (.int i) d := .mk fun s a b _ _ _ h₁ h₂ => by
  simp only [Is] at h₁ h₂
  obtain ⟨a, vs, rfl, _, hl, hi⟩ := h₁
  obtain ⟨t, rfl⟩ := h₂
  obtain ⟨v, hv', hiv⟩ := hi.nth hd
  have hlen := hi.length
  exact getItem_seq hl (by rw [hlen]; exact hj) hv' (by rw [hlen]; exact hn) ⟨Kp.refl s, hiv⟩
theorem Op2.idxT {ds : List Dt} {i : Int} {j : Nat} {d : Dt} (hj : seqIndex? i ds.length = some j) (hd : ds[j]? = some d) (hn : ds.length < 2 ^ 62) : Op2 w A X getItem (.tup ds) (.int i) d := .mk fun s a b _ _ _ h₁ h₂ => by
  simp only [Is] at h₁ h₂
  obtain ⟨a, vs, rfl, _, hl, hi⟩ := h₁
  obtain ⟨t, rfl⟩ := h₂
  obtain ⟨v, hv', hiv⟩ := hi.nth hd
  have hr := seqIndex_range hj
  exact PyProof.Rows.getItem_tuple hl (by omega) (by omega) (by simpa [hi.length] using hj) (by simpa using hv') ⟨Kp.refl s, hiv⟩
theorem Op2.idxS {x : Str} {i : Int} {j c : Nat} (hj : seqIndex? i x.length = some j) (hd : x.cps[j]? = some c) (hn : x.length < 2 ^ 62) : Op2 w A X getItem (.str x) (.int i) (.str ⟨#[c]⟩) := .mk fun s a b _ _ _ h₁ h₂ => by
  simp only [Is] at h₁ h₂
  obtain ⟨t, rfl⟩ := h₁
  obtain ⟨t', rfl⟩ := h₂
  have hr := seqIndex_range hj
  refine PyProof.Rows.getItem_str (by simp; omega) (c := c) (by rw [hj]; exact hd) ⟨Kp.tok _ _, ?_⟩
  simp only [Is]; exact ⟨_, rfl⟩

/-! slices -/
structure EvP (w : World) (A : Around) (e : Env) (X : List Addr) (Ow : Owns) (Γ : List (Str × Dt)) (x : Option Expr) (lo : Option Int) : Prop where
  h : ∀ s, Cx w e X Ow Γ s → wpAny (model pw w) A (evalPart x e) (fun v s' => Kp s s' ∧ IsPart v lo) Bot s
theorem EvP.none : EvP w A e X Ow Γ Option.none Option.none := .mk fun s c => wpAny_pure ⟨Kp.refl s, .none⟩
theorem EvP.some {ex : Expr} {i : Int} (h : Ev w A e X Ow Γ ex (.int i)) : EvP w A e X Ow Γ (some ex) (some i) := .mk fun s c => by
  rw [evalPart_some]
  refine wpb (h.h s c) fun v s' ⟨k, iv⟩ => ⟨k, ?_⟩
  simp only [Is] at iv; obtain ⟨t, rfl⟩ := iv; exact .int i t
noncomputable abbrev sliceObj (vl vu : Value) : Obj := { cls := .type "slice", data := .fields #[vl, vu, .none] }
structure OpS (w : World) (A : Around) (X : List Addr) (d₁ : Dt) (lo hi : Option Int) (d : Dt) : Prop where
  h : ∀ s a vl vu, IsPart vl lo → IsPart vu hi → Xin X s → Is s.heap X d₁ a →
    wpAny (model pw w) A (getItem a (.ref s.heap.objs.size)) (fun v s' => Kp { s with heap := s.heap.push (sliceObj vl vu) } s' ∧ Is s'.heap X d v) Bot { s with heap := s.heap.push (sliceObj vl vu) }
theorem Ev.slice {value : Expr} {lower upper : Option Expr} {p pos : Pos} {d₁ d : Dt} {lo hi : Option Int} {T : String} (o : OpS w A X d₁ lo hi d) (hv : Ev w A e X Ow Γ value d₁) (hl : EvP w A e X Ow Γ lower lo) (hu : EvP w A e X Ow Γ upper hi)
    (ht : tyOf d₁ = some T := by rfl) : Ev w A e X Ow Γ (.Subscript value (.Slice lower upper Option.none p) pos) d := .mk fun s c => by
  obtain ⟨id, hlk⟩ := ty_lookup ht
  refine Subscript_ (hv.use c fun a s₁ k₁ c₁ i₁ => wpAny_Slice (wpb (hl.h s₁ c₁) fun vl s₂ ⟨k₂, p₂⟩ => wpb (hu.h s₂ (c₁.keep k₂)) fun vu s₃ ⟨k₃, p₃⟩ => ?_))
  have k₁₃ := k₂.trans k₃
  have i₃ := i₁.keep k₁₃.ext
  have x₃ := (c₁.keep k₁₃).xin
  refine wpAny_pure ?_
  obtain ⟨ops, hf⟩ := sub_form (.Slice lower upper Option.none p) a (.ref s₃.heap.objs.size)
  have kp : Kp s₃ { s₃ with heap := s₃.heap.push (sliceObj vl vu) } := Kp.push _ _
  exact tail_any ((i₃.keep kp.ext).ty (s := { s₃ with heap := s₃.heap.push (sliceObj vl vu) }) ht) hlk (wpb (o.h s₃ a vl vu p₂ p₃ x₃ i₃) fun v s₄ ⟨k₄, i₄⟩ => ⟨((k₁.trans k₁₃).trans kp).trans k₄, i₄⟩) hf
noncomputable def cut {α : Type} (l : List α) (lo hi : Option Int) : List α := (l.drop (lo.elim 0 (clipAt l.length))).take (hi.elim l.length (clipAt l.length) - lo.elim 0 (clipAt l.length))
theorem IsAll.cut {h : Heap} {ds : List Dt} {vs : List Value} (i : IsAll h X ds vs) (a b : Nat) : IsAll h X ((ds.drop a).take b) ((vs.drop a).take b) := by
  refine IsAll.of ?_ fun n d v hd hv => ?_
  · simp [i.length]
  · rw [List.getElem?_take, List.getElem?_drop] at hd hv
    split at hd
    · simp only [*, if_true] at hv
      obtain ⟨v', h1, h2⟩ := i.nth hd
      rw [h1] at hv; cases hv; exact h2
    · cases hd
theorem OpS.lst {ds : List Dt} {lo hi : Option Int} (hsz : ds.length ≤ sizeLine) : OpS w A X (.lst ds) lo hi (.lst (cut ds lo hi)) := .mk fun s a vl vu pl pu x i => by
  simp only [Is] at i
  obtain ⟨a, vs, rfl, _, hl, hi'⟩ := i
  have kp : Kp s { s with heap := s.heap.push (sliceObj vl vu) } := Kp.push _ _
  refine wpAny_getItem_list_slice (hl.isList.push _) (Heap.IsSliceOf.new ..) pl pu .none (by simp) ⟨Kp.push _ _, ?_⟩ (by simpa [hi'.length] using hsz)
  have e1 : (slicePick vs.toArray lo hi none) = (Mine.cut vs lo hi).toArray := by rw [slicePick_plain]; rfl
  rw [e1]
  refine Is.newLst (s := { s with heap := s.heap.push (sliceObj vl vu) }) (x.keep kp) ?_
  have := (hi'.keep kp.ext).cut (lo.elim 0 (clipAt ds.length)) (hi.elim ds.length (clipAt ds.length) - lo.elim 0 (clipAt ds.length))
  unfold Mine.cut
  rw [hi'.length]; exact this
end
end Mine

namespace Mine
open PySem PySem.W PyProof.Rows PySem.SeqAt

/-! ## equality, deep -/
mutual
noncomputable def deq : Dt → Dt → Bool
  | .int i, e => match e with | .int j => i == j | _ => false
  | .str x, e => match e with | .str y => x == y | _ => false
  | .bytes x, e => match e with | .bytes y => x == y | _ => false
  | .tup l, e => match e with | .tup m => deqs l m | _ => false
  | .lst l, e => match e with | .lst m => deqs l m | _ => false
  | _, _ => false
noncomputable def deqs : List Dt → List Dt → Bool
  | [], m => m.isEmpty
  | a :: l, m => match m with | [] => false | b :: m => deq a b && deqs l m
end
mutual
/-- of one kind, as deep as n -/
noncomputable def dkin : Nat → Dt → Dt → Bool
  | _, .int _, e => match e with | .int _ => true | _ => false
  | _, .str _, e => match e with | .str _ => true | _ => false
  | _, .bytes _, e => match e with | .bytes _ => true | _ => false
  | n + 1, .tup l, e => match e with | .tup m => dkins n l m | _ => false
  | n + 1, .lst l, e => match e with | .lst m => dkins n l m | _ => false
  | _, _, _ => false
noncomputable def dkins : Nat → List Dt → List Dt → Bool
  | _, [], _ => true
  | n, a :: l, m => match m with | [] => true | b :: m => dkin n a b && dkins n l m
end

theorem deqs_all : ∀ {l m : List Dt}, l.length = m.length → ∀ {e : Nat → Bool}, (∀ j a b, l[j]? = some a → m[j]? = some b → e j = deq a b) → (List.range l.length).all e = deqs l m
  | [], [], _, e, _ => by simp [deqs]
  | [], b :: m, h, _, _ => by simp at h
  | a :: l, [], h, _, _ => by simp at h
  | a :: l, b :: m, h, e, he => by
    have h0 := he 0 a b (by simp) (by simp)
    have ih := deqs_all (l := l) (m := m) (by simpa using h) (e := fun j => e (j + 1)) fun j x y hx hy => he (j + 1) x y (by simpa using hx) (by simpa using hy)
    rw [List.length_cons, List.range_succ_eq_map, List.all_cons, List.all_map]
    simp only [deqs]
    rw [h0, ← ih]; rfl
theorem deqs_len : ∀ {l m : List Dt}, deqs l m = true → l.length = m.length
  | [], [], _ => rfl
  | [], b :: m, h => by simp [deqs] at h
  | a :: l, [], h => by simp [deqs] at h
  | a :: l, b :: m, h => by
    simp only [deqs, Bool.and_eq_true] at h
    simp [deqs_len h.2]
theorem deqs_min : ∀ {l m : List Dt} {e : Nat → Bool}, (∀ j a b, l[j]? = some a → m[j]? = some b → e j = deq a b) → ((List.range (min l.length m.length)).all e && l.length == m.length) = deqs l m := by
  intro l m e he
  by_cases h : l.length = m.length
  · rw [← h, Nat.min_self, deqs_all h he]; simp
  · have : (l.length == m.length) = false := by simpa using h
    rw [this, Bool.and_false]
    cases q : deqs l m with
    | false => rfl
    | true => exact absurd (deqs_len q) h
theorem dkins_nth : ∀ {l m : List Dt} {n : Nat}, dkins n l m = true → ∀ {j : Nat} {a b : Dt}, l[j]? = some a → m[j]? = some b → dkin n a b = true
  | [], _, _, _, j, a, b, h, _ => by simp at h
  | x :: l, [], _, _, j, a, b, _, h => by simp at h
  | x :: l, y :: m, n, hk, j, a, b, ha, hb => by
    simp only [dkins, Bool.and_eq_true] at hk
    cases j with
    | zero => simp at ha hb; subst ha hb; exact hk.1
    | succ j => exact dkins_nth hk.2 (by simpa using ha) (by simpa using hb)

section
variable {w : World} {A : Around} {s₀ : Shared} {Mu : List Addr} {e : Env} {X : List Addr} {Ow : Owns} {Γ : List (Str × Dt)} {s : Shared}

theorem richEq_of {y x : Value} {b : Bool} (h : ∀ (prog : Program) (w : World) (E : Value → Shared → Prop) (Q : Value → Shared → Prop), Q (.bool b) s → wpAny (model prog w) A (compareOp .Eq y x) Q E s) : RcAt A s y x b :=
  fun prog w E Q hq => h prog w E Q hq
theorem bytes_beq (b c : Array UInt8) : (b.toList == c.toList) = (b == c) := by
  rw [Bool.eq_iff_iff, beq_iff_eq, beq_iff_eq]
  exact Array.toList_inj
theorem rc_bytes (b : Array UInt8) (t : Tok) (c : Array UInt8) (u : Tok) : RcAt A s (.bytes b t) (.bytes c u) (b == c) := richEq_of fun prog w E Q hq => eq_bytes (by rw [bytes_beq]; exact hq)
theorem eqAt_bytes (b : Array UInt8) (t : Tok) (c : Array UInt8) (u : Tok) : EqAt A s (.bytes b t) (.bytes c u) (b == c) := fun prog w E Q h => by
  unfold eqBool
  refine wpAny_holding ?_
  refine wpAny_ite_split (fun hab => ?_) (fun _ => ?_)
  · have e : b = c := by have := eq_of_beq hab; injection this
    subst e
    exact wpAny_bind (wpAny_rule (wpAny_pure (by simpa using h)))
  · exact wpAny_bind (rc_bytes b t c u prog w E _ (wpAny_truthy_bool h))

theorem tup_same {h : Heap} {a : Addr} {x y : Array Value} (p : h.IsTuple a x) (q : h.IsTuple a y) : x = y := by
  obtain ⟨o, h1, _, n, h2⟩ := p
  obtain ⟨o', h3, _, n', h4⟩ := q
  rw [h1] at h3; cases h3; rw [h2] at h4; cases h4; rfl
theorem lst_same {h : Heap} {a : Addr} {x y : Array Value} (p : h.PlainList a x) (q : h.PlainList a y) : x = y := by
  obtain ⟨n, h1⟩ := p
  obtain ⟨n', h2⟩ := q
  rw [h1] at h2; cases h2; rfl
mutual
/-- one value bears one datum only -/
theorem Is.uniq {h : Heap} : ∀ (d : Dt) {n : Nat} {d' : Dt} {v : Value}, dkin n d d' = true → Is h X d v → Is h X d' v → deq d d' = true
  | .int i, n, d', v, k, a, b => by
    cases d' <;> simp only [dkin, Bool.false_eq_true] at k
    simp only [Is] at a b
    obtain ⟨t, rfl⟩ := a
    obtain ⟨t', e⟩ := b
    injection e with e1 e2
    simp [deq, e1]
  | .str i, n, d', v, k, a, b => by
    cases d' <;> simp only [dkin, Bool.false_eq_true] at k
    simp only [Is] at a b
    obtain ⟨t, rfl⟩ := a
    obtain ⟨t', e⟩ := b
    injection e with e1 e2
    simp [deq, e1]
  | .bytes i, n, d', v, k, a, b => by
    cases d' <;> simp only [dkin, Bool.false_eq_true] at k
    simp only [Is] at a b
    obtain ⟨t, rfl⟩ := a
    obtain ⟨t', e⟩ := b
    injection e with e1 e2
    simp [deq, e1]
  | .tup l, n, d', v, k, a, b => by
    cases n with
    | zero => simp [dkin] at k
    | succ n =>
      cases d' <;> simp only [dkin, Bool.false_eq_true] at k
      simp only [Is] at a b
      obtain ⟨x, vs, rfl, _, h1, i1⟩ := a
      obtain ⟨y, us, e, _, h2, i2⟩ := b
      cases e
      have := tup_same h1 h2
      have e2 : vs = us := by simpa using this
      subst e2
      simp only [deq]
      exact IsAll.uniq l k i1 i2
  | .lst l, n, d', v, k, a, b => by
    cases n with
    | zero => simp [dkin] at k
    | succ n =>
      cases d' <;> simp only [dkin, Bool.false_eq_true] at k
      simp only [Is] at a b
      obtain ⟨x, vs, rfl, _, h1, i1⟩ := a
      obtain ⟨y, us, e, _, h2, i2⟩ := b
      cases e
      have := lst_same h1 h2
      have e2 : vs = us := by simpa using this
      subst e2
      simp only [deq]
      exact IsAll.uniq l k i1 i2
  | .none, n, d', v, k, a, b => by simp [dkin] at k
  | .bool _, n, d', v, k, a, b => by simp [dkin] at k
  | .inst _, n, d', v, k, a, b => by simp [dkin] at k
  | .own _, n, d', v, k, a, b => by simp [dkin] at k
theorem IsAll.uniq {h : Heap} : ∀ (l : List Dt) {n : Nat} {m : List Dt} {vs : List Value}, dkins n l m = true → IsAll h X l vs → IsAll h X m vs → deqs l m = true
  | [], n, m, vs, k, a, b => by
    simp only [IsAll] at a; subst a
    have := b.length
    have : m = [] := List.length_eq_zero_iff.mp this.symm
    subst this; rfl
  | x :: l, n, m, vs, k, a, b => by
    simp only [IsAll] at a
    obtain ⟨v, r, rfl, hv, hr⟩ := a
    cases m with
    | nil => simp only [IsAll] at b; cases b
    | cons y m =>
      simp only [IsAll] at b
      obtain ⟨v', r', e, hv', hr'⟩ := b
      cases e
      simp only [dkins, Bool.and_eq_true] at k
      simp only [deqs, Bool.and_eq_true]
      exact ⟨Is.uniq x k.1 hv hv', IsAll.uniq l k.2 hr hr'⟩
end

theorem dkin_cases {n : Nat} {d d' : Dt} (k : dkin n d d' = true) :
    (∃ i j, d = .int i ∧ d' = .int j) ∨ (∃ i j, d = .str i ∧ d' = .str j) ∨ (∃ i j, d = .bytes i ∧ d' = .bytes j) ∨
    (∃ m l l', n = m + 1 ∧ d = .tup l ∧ d' = .tup l' ∧ dkins m l l' = true) ∨ (∃ m l l', n = m + 1 ∧ d = .lst l ∧ d' = .lst l' ∧ dkins m l l' = true) := by
  cases d
  case int i => cases d' <;> simp [dkin] at k ⊢
  case str i => cases d' <;> simp [dkin] at k ⊢
  case bytes i => cases d' <;> simp [dkin] at k ⊢
  case tup l =>
    cases n with
    | zero => simp [dkin] at k
    | succ n => cases d' <;> simp [dkin] at k ⊢; exact k
  case lst l =>
    cases n with
    | zero => simp [dkin] at k
    | succ n => cases d' <;> simp [dkin] at k ⊢; exact k
  all_goals simp [dkin] at k

theorem eq_dt : ∀ (n : Nat) {A : Around} {d d' : Dt} {v u : Value}, dkin n d d' = true → Is s.heap X d v → Is s.heap X d' u → A.units + n < cLine → RcAt A s v u (deq d d') ∧ EqAt A s v u (deq d d') := by
  intro n
  induction n with
  | zero =>
    intro A d d' v u k a b hu
    rcases dkin_cases k with ⟨i, j, rfl, rfl⟩ | ⟨i, j, rfl, rfl⟩ | ⟨i, j, rfl, rfl⟩ | ⟨m, _, _, q, _⟩ | ⟨m, _, _, q, _⟩
    · simp only [Is] at a b; obtain ⟨t, rfl⟩ := a; obtain ⟨t', rfl⟩ := b; exact ⟨RcAt.int_int _ _ _ _, EqAt.int_int _ _ _ _⟩
    · simp only [Is] at a b; obtain ⟨t, rfl⟩ := a; obtain ⟨t', rfl⟩ := b; exact ⟨RcAt.str_str _ _ _ _, EqAt.str_str _ _ _ _⟩
    · simp only [Is] at a b; obtain ⟨t, rfl⟩ := a; obtain ⟨t', rfl⟩ := b; exact ⟨rc_bytes _ _ _ _, eqAt_bytes _ _ _ _⟩
    · omega
    · omega
  | succ n ih =>
    intro A d d' v u k a b hu
    rcases dkin_cases k with ⟨i, j, rfl, rfl⟩ | ⟨i, j, rfl, rfl⟩ | ⟨i, j, rfl, rfl⟩ | ⟨m, l, l', q, rfl, rfl, kk⟩ | ⟨m, l, l', q, rfl, rfl, kk⟩
    · simp only [Is] at a b; obtain ⟨t, rfl⟩ := a; obtain ⟨t', rfl⟩ := b; exact ⟨RcAt.int_int _ _ _ _, EqAt.int_int _ _ _ _⟩
    · simp only [Is] at a b; obtain ⟨t, rfl⟩ := a; obtain ⟨t', rfl⟩ := b; exact ⟨RcAt.str_str _ _ _ _, EqAt.str_str _ _ _ _⟩
    · simp only [Is] at a b; obtain ⟨t, rfl⟩ := a; obtain ⟨t', rfl⟩ := b; exact ⟨rc_bytes _ _ _ _, eqAt_bytes _ _ _ _⟩
    · obtain rfl : n = m := by omega
      have same := fun (e : v = u) => Is.uniq (X := X) (h := s.heap) (.tup l) k a (e ▸ b)
      simp only [Is] at a b
      obtain ⟨x, vs, rfl, _, h1, i1⟩ := a
      obtain ⟨y, us, rfl, _, h2, i2⟩ := b
      have l1 := i1.length
      have l2 := i2.length
      have rc : RcAt A s (.ref x) (.ref y) (deq (.tup l) (.tup l')) := by
        have hA : A.in1.units + n < cLine := by show A.units + 1 + n < _; omega
        have := RcAt.tuples (A := A) (e := fun j => match l[j]?, l'[j]? with | some a, some b => deq a b | _, _ => true) h1 h2 (by omega) (fun j q1 q2 => by
          simp only [List.size_toArray] at q1 q2
          have e1 : l[j]? = some l[j] := List.getElem?_eq_getElem (by omega)
          have e2 : l'[j]? = some l'[j] := List.getElem?_eq_getElem (by omega)
          obtain ⟨v1, hv1, iv1⟩ := i1.nth e1
          obtain ⟨v2, hv2, iv2⟩ := i2.nth e2
          rw [e1, e2]
          have w1 : vs.toArray[j] = v1 := by
            have := List.getElem?_eq_some_iff.mp hv1; obtain ⟨_, q⟩ := this; simpa using q
          have w2 : us.toArray[j] = v2 := by
            have := List.getElem?_eq_some_iff.mp hv2; obtain ⟨_, q⟩ := this; simpa using q
          rw [w1, w2]
          exact (ih (dkins_nth kk e1 e2) iv1 iv2 hA).2)
        simp only [List.size_toArray, l1, l2] at this
        rw [deqs_min (l := l) (m := l') (fun j a b ha hb => by rw [ha, hb])] at this
        exact this
      refine ⟨rc, ?_⟩
      by_cases hxy : x = y
      · subst hxy
        rw [same rfl]
        exact EqAt.same _
      · exact EqAt.of_refs hxy rc
    · obtain rfl : n = m := by omega
      have same := fun (e : v = u) => Is.uniq (X := X) (h := s.heap) (.lst l) k a (e ▸ b)
      simp only [Is] at a b
      obtain ⟨x, vs, rfl, _, h1, i1⟩ := a
      obtain ⟨y, us, rfl, _, h2, i2⟩ := b
      have l1 := i1.length
      have l2 := i2.length
      have rc : RcAt A s (.ref x) (.ref y) (deq (.lst l) (.lst l')) := by
        have hA : A.in1.units + n < cLine := by show A.units + 1 + n < _; omega
        by_cases hl : l.length = l'.length
        · have := RcAt.lists (A := A) (e := fun j => match l[j]?, l'[j]? with | some a, some b => deq a b | _, _ => true) h1.isList h2.isList (by simp [l1, l2, hl]) (by omega) (fun j q1 q2 => by
            simp only [List.size_toArray] at q1 q2
            have e1 : l[j]? = some l[j] := List.getElem?_eq_getElem (by omega)
            have e2 : l'[j]? = some l'[j] := List.getElem?_eq_getElem (by omega)
            obtain ⟨v1, hv1, iv1⟩ := i1.nth e1
            obtain ⟨v2, hv2, iv2⟩ := i2.nth e2
            rw [e1, e2]
            have w1 : vs.toArray[j] = v1 := by
              have := List.getElem?_eq_some_iff.mp hv1; obtain ⟨_, q⟩ := this; simpa using q
            have w2 : us.toArray[j] = v2 := by
              have := List.getElem?_eq_some_iff.mp hv2; obtain ⟨_, q⟩ := this; simpa using q
            rw [w1, w2]
            exact (ih (dkins_nth kk e1 e2) iv1 iv2 hA).2)
          simp only [List.size_toArray, l1] at this
          rw [deqs_all (l := l) (m := l') hl (fun j a b ha hb => by rw [ha, hb])] at this
          exact this
        · have e0 : deq (.lst l) (.lst l') = false := by
            simp only [deq]
            cases q : deqs l l' with
            | false => rfl
            | true => exact absurd (deqs_len q) hl
          rw [e0]
          exact RcAt.lists_lengths h1.isList h2.isList (by simp [l1, l2, hl]) (by omega)
      refine ⟨rc, ?_⟩
      by_cases hxy : x = y
      · subst hxy
        rw [same rfl]
        exact EqAt.same _
      · exact EqAt.of_refs hxy rc

theorem Op2.eq {d d' : Dt} (n : Nat) (k : dkin n d d' = true) (hu : A.units + n < cLine) : Op2 w A X (compareOp .Eq) d d' (.bool (deq d d')) := .mk fun s a b _ _ _ h₁ h₂ =>
  (eq_dt n k h₁ h₂ hu).1 _ _ _ _ ⟨Kp.refl s, by simp only [Is]⟩
/-- lists, apart -/
theorem Op2.neL {l l' : List Dt} (n : Nat) (k : dkins n l l' = true) (hu : A.units + 1 + n < cLine) : Op2 w A X (compareOp .NotEq) (.lst l) (.lst l') (.bool (!deqs l l')) := .mk fun s a b _ _ _ h₁ h₂ => by
  simp only [Is] at h₁ h₂
  obtain ⟨x, vs, rfl, _, h1, i1⟩ := h₁
  obtain ⟨y, us, rfl, _, h2, i2⟩ := h₂
  have l1 := i1.length
  have l2 := i2.length
  have hA : A.in1.units + n < cLine := hu
  have fin : ∀ {b : Bool}, RcNeAt A s (.ref x) (.ref y) b → b = (!deqs l l') → wpAny (model pw w) A (compareOp .NotEq (.ref x) (.ref y)) (fun v s' => Kp s s' ∧ Is s'.heap X (.bool (!deqs l l')) v) Bot s := fun {b} h e =>
    h _ _ _ _ ⟨Kp.refl s, by simp only [Is]; rw [e]⟩
  by_cases hl : l.length = l'.length
  · refine fin (RcNeAt.lists (A := A) (e := fun j => match l[j]?, l'[j]? with | some a, some b => deq a b | _, _ => true) h1.isList h2.isList (by simp [l1, l2, hl]) (by omega) (fun j q1 q2 => ?_)) ?_
    · simp only [List.size_toArray] at q1 q2
      have e1 : l[j]? = some l[j] := List.getElem?_eq_getElem (by omega)
      have e2 : l'[j]? = some l'[j] := List.getElem?_eq_getElem (by omega)
      obtain ⟨v1, hv1, iv1⟩ := i1.nth e1
      obtain ⟨v2, hv2, iv2⟩ := i2.nth e2
      rw [e1, e2]
      have w1 : vs.toArray[j] = v1 := by
        have := List.getElem?_eq_some_iff.mp hv1; obtain ⟨_, q⟩ := this; simpa using q
      have w2 : us.toArray[j] = v2 := by
        have := List.getElem?_eq_some_iff.mp hv2; obtain ⟨_, q⟩ := this; simpa using q
      rw [w1, w2]
      exact (eq_dt n (dkins_nth k e1 e2) iv1 iv2 hA).2
    · simp only [List.size_toArray, l1]
      rw [deqs_all (l := l) (m := l') hl (fun j a b ha hb => by rw [ha, hb])]
  · refine fin (RcNeAt.lists_lengths h1.isList h2.isList (by simp [l1, l2, hl]) (by omega)) ?_
    cases q : deqs l l' with
    | false => rfl
    | true => exact absurd (deqs_len q) hl
/-- in a list -/
theorem Op2.inL {d : Dt} {l : List Dt} (n : Nat) (k : ∀ x ∈ l, dkin n x d = true) (hu : A.units + 1 + n < cLine) : Op2 w A X (compareOp .In) d (.lst l) (.bool (l.any fun x => deq x d)) := .mk fun s a b _ _ _ h₁ h₂ => by
  simp only [Is] at h₂
  obtain ⟨x, vs, rfl, _, h1, i1⟩ := h₂
  have hA : A.in1.units + n < cLine := hu
  classical
  let f : Value → Bool := fun y => decide (∃ (i : Nat) (e' : Dt), vs[i]? = some y ∧ l[i]? = some e' ∧ deq e' d = true)
  have at' : ∀ (i : Nat) (y : Value), vs[i]? = some y → ∃ e', l[i]? = some e' ∧ EqAt A.in1 s y a (deq e' d) := fun i y hy => by
    obtain ⟨e', he, ie⟩ := i1.nth' hy
    exact ⟨e', he, (eq_dt n (k e' (List.mem_of_getElem? he)) ie h₁ hA).2⟩
  refine in_listAt f h1.isList (fun y hy => ?_) ⟨Kp.refl s, ?_⟩
  · have hy' : y ∈ vs := by simpa using hy
    obtain ⟨i, hi, rfl⟩ := List.getElem_of_mem hy'
    by_cases q : ∃ (j : Nat) (e' : Dt), vs[j]? = some vs[i] ∧ l[j]? = some e' ∧ deq e' d = true
    · have hf : f vs[i] = true := decide_eq_true q
      rw [hf]
      obtain ⟨j, e', h1, h2, h3⟩ := q
      obtain ⟨e'', h4, h5⟩ := at' j _ h1
      rw [h2] at h4; cases h4
      rw [h3] at h5; exact h5
    · have hf : f vs[i] = false := decide_eq_false q
      rw [hf]
      obtain ⟨e'', h4, h5⟩ := at' i _ (List.getElem?_eq_getElem hi)
      have : deq e'' d = false := by
        cases r : deq e'' d with
        | false => rfl
        | true => exact absurd ⟨i, e'', List.getElem?_eq_getElem hi, h4, r⟩ q
      rw [this] at h5; exact h5
  · simp only [Is]
    congr 1
    rw [Bool.eq_iff_iff]
    simp only [List.any_toArray, List.any_eq_true]
    constructor
    · rintro ⟨y, hy, hf⟩
      obtain ⟨j, e', h1, h2, h3⟩ := of_decide_eq_true hf
      exact ⟨e', List.mem_of_getElem? h2, h3⟩
    · rintro ⟨e', he, h3⟩
      obtain ⟨i, hi, rfl⟩ := List.getElem_of_mem he
      obtain ⟨v, hv, _⟩ := i1.nth (List.getElem?_eq_getElem hi)
      exact ⟨v, List.mem_of_getElem? hv, decide_eq_true ⟨i, _, hv, List.getElem?_eq_getElem hi, h3⟩⟩
end
end Mine

namespace Mine
open PySem PySem.W PyProof.Rows PySem.SeqAt

section
variable {w : World} {A : Around} {s₀ : Shared} {Mu : List Addr} {e : Env} {X : List Addr} {Ow : Owns} {Γ : List (Str × Dt)} {s : Shared}

/-! ## calls by name -/
noncomputable def GlobV (P : Params) (f : Str) (v : Value) : Prop := mgl P f = some v ∨ (mgl P f = none ∧ mbl P f = some v)
theorem GlobV.load {f : Str} {v : Value} {p : Pos} {Q : Value → Shared → Prop} {E : Value → Shared → Prop} (h : GlobV w.params f v) (g : GEnv e) (hk : e.kindOf f = some .globalImplicit) (wd : Wd w s.heap) (q : Q v s)
    (hd : (f == ("__debug__" : Str)) = false) : wpAny (model pw w) A (eval (.Name f p) e) Q E s := by
  refine Calls.Name_function_global g.k hk ?_ hd
  have hg : s.heap.Ns e.globals (mgl w.params) := by rw [g.g]; exact wd.glob
  have hb : s.heap.Ns e.builtins (mbl w.params) := by rw [g.b]; exact wd.blt
  rcases h with h | ⟨h, h'⟩
  · exact Calls.loadGlobal_global hg h q
  · exact Calls.loadGlobal_builtin hg h hb h' q

/-- a call with values that stand -/
structure OpC (w : World) (A : Around) (X : List Addr) (f : Value) (ds : List Dt) (d : Dt) : Prop where
  h : ∀ s vs, 0 < s.toks → Wd w s.heap → Xin X s → IsAll s.heap X ds vs → wpAny (model pw w) A (call f vs) (fun v s' => Kp s s' ∧ Is s'.heap X d v) Bot s
/-- what may stand for a function's name -/
inductive Fv (P : Params) : Value → Prop
  | fn {fa : Addr} {fd : FuncData} {body : List Stmt} (h : FnAt P fa fd body) : Fv P (.ref fa)
  | blt (id : String) : Fv P (.builtin id)
  | ty (T : String) : Fv P (.type T)
theorem callWith_fv {f : Value} {pos : Pos} {es : List Expr} {Q : Value → Shared → Prop} {E : Value → Shared → Prop} {x : Sem Value} {r : List (Bool × Sem Value)} (hf : Fv w.params f) (wd : Wd w s.heap)
    (hst : backTo pos (starEach es e) = (false, x) :: r) (hpl : (backTo pos (starEach es e)).any (·.1) = false)
    (h : wpAny (model pw w) A (spliced (backTo pos (starEach es e))) (fun vs s' => (∀ a o, (KK w.params).lookup a = some o → s'.heap.get? a = some o) ∧ wpAny (model pw w) A (call f vs) Q E s') E s) :
    wpAny (model pw w) A (callWith pos f [] (backTo pos (starEach es e)) []) Q E s := by
  rw [hst] at h hpl ⊢
  cases hf with
  | fn hfn =>
    rename_i fa fd body
    obtain ⟨c, d, sl, lk⟩ := hfn.lk
    exact Calls.callWith_function (o := ⟨c, d, .func fd, sl⟩) (fd := fd) (Calls.evalArgs_plain (wpAny_mono h (fun vs s' h' => ⟨⟨h'.1 _ _ lk, rfl⟩, h'.2⟩) fun _ _ x => x))
  | blt id => exact Calls.callWith_builtin hpl (Calls.evalArgs_plain (wpAny_mono h (fun vs s' h' => h'.2) fun _ _ x => x))
  | ty T => exact PyProof.Rows.callWith_type hpl (Calls.evalArgs_plain (wpAny_mono h (fun vs s' h' => h'.2) fun _ _ x => x))
theorem Ev.call {f : Str} {fv : Value} {p pos : Pos} {es : List Expr} {ds : List Dt} {d : Dt} (g : GEnv e) (hk : e.kindOf f = some .globalImplicit) (hv : GlobV w.params f fv) (hf : Fv w.params fv)
    (ha : EvAll w A e X Ow Γ pos es ds) (o : OpC w A X fv ds d) (hst : ∃ x r, backTo pos (starEach es e) = (false, x) :: r := by exact ⟨_, _, rfl⟩) (hpl : (backTo pos (starEach es e)).any (·.1) = false := by rfl)
    (hd : (f == ("__debug__" : Str)) = false := by rfl) : Ev w A e X Ow Γ (.Call (.Name f p) es [] pos) d := .mk fun s c => by
  refine wpAny_Call_NameR (hv.load g hk c.wd ?_ hd)
  obtain ⟨x, r, hst⟩ := hst
  refine callWith_fv hf c.wd hst hpl (wpb (ha.h s c) fun vs s₁ ⟨k₁, i₁⟩ => ?_)
  have c₁ := c.keep k₁
  exact ⟨c₁.wd, wpb (o.h s₁ vs c₁.tk c₁.wd c₁.xin i₁) fun v s₂ ⟨k₂, i₂⟩ => ⟨k₁.trans k₂, i₂⟩⟩

/-! ## truth -/
structure OpT (w : World) (A : Around) (X : List Addr) (d : Dt) (b : Bool) : Prop where
  h : ∀ s v, Is s.heap X d v → wpAny (model pw w) A (truthy v) (fun c s' => Kp s s' ∧ c = b) Bot s
theorem OpT.bool {b : Bool} : OpT w A X (.bool b) b := .mk fun s v i => by
  simp only [Is] at i; subst i; exact wpAny_truthy_bool ⟨Kp.refl s, rfl⟩
theorem OpT.int {i : Int} : OpT w A X (.int i) (i != 0) := .mk fun s v iv => by
  simp only [Is] at iv; obtain ⟨t, rfl⟩ := iv; exact PyProof.Rows.truthy_int ⟨Kp.refl s, rfl⟩
theorem EvT.of {ex : Expr} {d : Dt} {b : Bool} (h : Ev w A e X Ow Γ ex d) (o : OpT w A X d b)
    (he : isTrue ex e (eval ex e) = (do let v ← eval ex e; standAt ex.pos; holding [v] (truthy v)) := by rfl) : EvT w A e X Ow Γ ex b := .mk fun s c =>
  isTrue_plain (h.use c fun v s₁ k₁ c₁ i₁ => wpb (o.h s₁ v i₁) fun c' s₂ ⟨k₂, e₂⟩ => ⟨k₁.trans k₂, e₂⟩) he
theorem EvT.not {ex : Expr} {p : Pos} {b : Bool} (h : EvT w A e X Ow Γ ex b) : EvT w A e X Ow Γ (.UnaryOp .Not ex p) (!b) := .mk fun s c =>
  isTrue_not (wpb (h.h s c) fun c' s₁ ⟨k, e⟩ => ⟨k, by rw [e]⟩)
theorem EvT.andN {p : Pos} : EvT w A e X Ow Γ (.BoolOp .And [] p) true := .mk fun s c => isTrue_and_nil ⟨Kp.refl s, rfl⟩
theorem EvT.orN {p : Pos} : EvT w A e X Ow Γ (.BoolOp .Or [] p) false := .mk fun s c => isTrue_or_nil ⟨Kp.refl s, rfl⟩
theorem EvT.and {x : Expr} {rest : List Expr} {p : Pos} {b c : Bool} (h : EvT w A e X Ow Γ x b) (t : b = true → EvT w A e X Ow Γ (.BoolOp .And rest p) c) : EvT w A e X Ow Γ (.BoolOp .And (x :: rest) p) (b && c) := .mk fun s cx =>
  isTrue_and (wpb (h.h s cx) fun b' s₁ ⟨k, e⟩ => by
    subst e
    cases b' with
    | true => exact wpb ((t rfl).h s₁ (cx.keep k)) fun c' s₂ ⟨k₂, e₂⟩ => ⟨k.trans k₂, by simpa using e₂⟩
    | false => exact ⟨k, rfl⟩)
theorem EvT.or {x : Expr} {rest : List Expr} {p : Pos} {b c : Bool} (h : EvT w A e X Ow Γ x b) (t : b = false → EvT w A e X Ow Γ (.BoolOp .Or rest p) c) : EvT w A e X Ow Γ (.BoolOp .Or (x :: rest) p) (b || c) := .mk fun s cx =>
  isTrue_or (wpb (h.h s cx) fun b' s₁ ⟨k, e⟩ => by
    subst e
    cases b' with
    | true => exact ⟨k, rfl⟩
    | false => exact wpb ((t rfl).h s₁ (cx.keep k)) fun c' s₂ ⟨k₂, e₂⟩ => ⟨k.trans k₂, by simpa using e₂⟩)

/-! ## built-in functions -/
theorem IsAll.one {h : Heap} {d : Dt} {vs : List Value} (i : IsAll h X [d] vs) : ∃ v, vs = [v] ∧ Is h X d v := by
  simp only [IsAll] at i
  obtain ⟨v, r, rfl, hv, rfl⟩ := i
  exact ⟨v, rfl, hv⟩
theorem IsAll.two {h : Heap} {d d' : Dt} {vs : List Value} (i : IsAll h X [d, d'] vs) : ∃ v v', vs = [v, v'] ∧ Is h X d v ∧ Is h X d' v' := by
  simp only [IsAll] at i
  obtain ⟨v, r, rfl, hv, v', r', rfl, hv', rfl⟩ := i
  exact ⟨v, v', rfl, hv, hv'⟩
theorem OpC.abs {i : Int} : OpC w A X (.builtin "abs") [.int i] (.int (if i < 0 then -i else i)) := .mk fun s vs _ _ _ i₁ => by
  obtain ⟨v, rfl, iv⟩ := i₁.one
  simp only [Is] at iv; obtain ⟨t, rfl⟩ := iv
  exact wpKp (PyProof.Rows.call_abs_int fun u tk => ⟨kq _ _, by simp only [Is]; exact ⟨_, rfl⟩⟩)
theorem OpC.toInt {i : Int} : OpC w A X (.type "int") [.int i] (.int i) := .mk fun s vs _ _ _ i₁ => by
  obtain ⟨v, rfl, iv⟩ := i₁.one
  simp only [Is] at iv; obtain ⟨t, rfl⟩ := iv
  exact call_int_int ⟨Kp.refl s, by simp only [Is]; exact ⟨_, rfl⟩⟩
theorem OpC.ord {x : Str} {c : Nat} (h : x.cps = #[c]) : OpC w A X (.builtin "ord") [.str x] (.int c) := .mk fun s vs _ _ _ i₁ => by
  obtain ⟨v, rfl, iv⟩ := i₁.one
  simp only [Is] at iv; obtain ⟨t, rfl⟩ := iv
  obtain ⟨cps⟩ := x
  cases h
  exact P.ord_of_char ⟨Kp.tok _ _, by simp only [Is]; exact ⟨_, rfl⟩⟩
theorem OpC.chr {i : Int} (h0 : 0 ≤ i) (h1 : i ≤ 1114111) : OpC w A X (.builtin "chr") [.int i] (.str ⟨#[i.toNat]⟩) := .mk fun s vs _ _ _ i₁ => by
  obtain ⟨v, rfl, iv⟩ := i₁.one
  simp only [Is] at iv; obtain ⟨t, rfl⟩ := iv
  exact chr_of_range h0 h1 ⟨Kp.tok _ _, by simp only [Is]; exact ⟨_, rfl⟩⟩
theorem OpC.len {ds : List Dt} (hn : ds.length < 2 ^ 62) : OpC w A X (.builtin "len") [.lst ds] (.int ds.length) := .mk fun s vs _ _ _ i₁ => by
  obtain ⟨v, rfl, iv⟩ := i₁.one
  simp only [Is] at iv; obtain ⟨a, vs, rfl, _, hl, hi⟩ := iv
  have l1 := hi.length
  refine Calls.call_len_list hl.isList (by simp; omega) ⟨Kp.tok _ _ (by omega), ?_⟩
  simp only [Is, List.size_toArray, l1]; exact ⟨_, rfl⟩
theorem OpC.divmod {i j : Int} (hj : j ≠ 0) (hs : j.natAbs < 1073741824) : OpC w A X (.builtin "divmod") [.int i, .int j] (.tup [.int (i.fdiv j), .int (i.fmod j)]) := .mk fun s vs _ _ x i₁ => by
  obtain ⟨v, v', rfl, iv, iv'⟩ := i₁.two
  simp only [Is] at iv iv'; obtain ⟨t, rfl⟩ := iv; obtain ⟨t', rfl⟩ := iv'
  refine PyProof.Rows.divmod_int hj ⟨Kp.mk' (fun b o h => Heap.get?_push_of_some _ h) (by omega), ?_⟩ (.inl (PyProof.noPylong_small hs))
  refine Is.newTup (s := s) (vs := [_, _]) x ?_
  simp only [IsAll, Is]
  exact ⟨_, _, rfl, ⟨_, rfl⟩, _, _, rfl, ⟨_, rfl⟩, rfl⟩
end
end Mine

namespace Mine
open PySem PySem.W PyProof.Rows PySem.SeqAt

section
variable {w : World} {A : Around} {s₀ : Shared} {Mu : List Addr} {e : Env} {X : List Addr} {Ow : Owns} {Γ : List (Str × Dt)} {s : Shared}

/-! ## tuples of names -/
theorem Kb.refl (s : Shared) : Kb e s s := ⟨Nat.le_refl _, ⟨s.heap, s.toks, rfl⟩, fun _ _ _ _ h => h⟩
theorem Kb.trans {s s' s'' : Shared} (a : Kb e s s') (b : Kb e s' s'') : Kb e s s'' := by
  obtain ⟨h, t, e1⟩ := a.same
  obtain ⟨h2, t2, e2⟩ := b.same
  exact ⟨Nat.le_trans a.tk b.tk, ⟨h2, t2, by rw [e2, e1]⟩, fun c o h1 h2 h3 => b.keep c o h1 h2 (a.keep c o h1 h2 h3)⟩
theorem Kp.kb {s s' : Shared} (k : Kp s s') : Kb e s s' := by
  have tk := k.tk
  have ex := k.ext
  obtain ⟨h, t, e1, _⟩ := k.k
  exact ⟨tk, ⟨h, t, e1⟩, fun b o _ _ h => ex b o h⟩
theorem Kb.is {s s' : Shared} (k : Kb e s s') (F : Fs w e X Ow Γ s) {d : Dt} {v : Value} (i : Is s.heap X d v) : Is s'.heap X d v :=
  i.ext fun b o hb ho => ⟨k.keep b o (fun q => hb (q ▸ F.lx)) (fun p hp q => hb (q ▸ F.cx p hp)) ho, hb⟩
theorem Kb.isAll {s s' : Shared} (k : Kb e s s') (F : Fs w e X Ow Γ s) {d : List Dt} {v : List Value} (i : IsAll s.heap X d v) : IsAll s'.heap X d v :=
  i.ext fun b o hb ho => ⟨k.keep b o (fun q => hb (q ▸ F.lx)) (fun p hp q => hb (q ▸ F.cx p hp)) ho, hb⟩
theorem Fn.ofKb {Γ' : List (Str × Dt)} {s' : Shared} (F : Fn w s₀ Mu e X Ow Γ s) (G : Fs w e X Ow Γ' s') (k : Kb e s s') : Fn w s₀ Mu e X Ow Γ' s' := by
  obtain ⟨h, t, e0⟩ := F.same
  obtain ⟨h2, t2, e2⟩ := k.same
  exact ⟨G, Nat.le_trans F.tk0 k.tk, ⟨h2, t2, by rw [e2, e0]⟩, fun b o hb eb => k.keep b o (fun q => hb (q ▸ F.lm.1)) (fun p hp q => hb (q ▸ F.lm.2 p hp)) (F.keep0 b o hb eb), F.lm, F.oo⟩

noncomputable def updAll (Γ : List (Str × Dt)) : List (Str × Dt) → List (Str × Dt)
  | [] => Γ
  | (x, d) :: r => updAll (upd Γ x d) r
noncomputable def Stores (e : Env) (x : Str) : Prop := (e.kindOf x = some .local ∨ (e.kindOf x = some .cell ∧ ∃ c, e.cells.lookup x = some c)) ∧ (x == ("__classdict__" : Str)) = false
theorem assign_step {t : Value → Sem Unit} {ts : List (Value → Sem Unit)} {x : Value} {xs : List Value} {Q : Unit → Shared → Prop} {E : Value → Shared → Prop} (h : wpAny (model pw w) A (t x) (fun _ s' => wpAny (model pw w) A (assignInOrder ts xs) Q E s') E s) :
    wpAny (model pw w) A (assignInOrder (t :: ts) (x :: xs)) Q E s := by
  show wpAny _ _ (do holding xs (t x); assignInOrder ts xs) _ _ _
  exact wpAny_bind (wpAny_holding h)
theorem Fs.storeAll (hk : e.scope.kind = .function) {E : Value → Shared → Prop} : ∀ (ns : List (Str × Pos)) (ds : List Dt) (vs : List Value) (Γ : List (Str × Dt)) (s : Shared) (Q : Unit → Shared → Prop), Fs w e X Ow Γ s → (∀ n ∈ ns, Stores e n.1) → ns.length = ds.length → IsAll s.heap X ds vs →
    (∀ s', Fs w e X Ow (updAll Γ ((ns.map (·.1)).zip ds)) s' → Kb e s s' → Q () s') → wpAny (model pw w) A (assignInOrder (ns.map fun n => PySem.assign (.Name n.1 n.2) e) vs) Q E s
  | [], [], vs, Γ, s, Q, F, _, _, i, h => by
    simp only [IsAll] at i; subst i
    exact wpAny_pure (h s F (Kb.refl s))
  | [], _ :: _, _, _, _, _, _, _, l, _, _ => by simp at l
  | _ :: _, [], _, _, _, _, _, _, l, _, _ => by simp at l
  | n :: ns, d :: ds, vs, Γ, s, Q, F, hs, l, i, h => by
    simp only [IsAll] at i
    obtain ⟨v, r, rfl, hv, hr⟩ := i
    refine assign_step (wpAny_assign_Name (F.store hk hv (hs n List.mem_cons_self).1 (hs n List.mem_cons_self).2 fun s' G k => ?_))
    exact Fs.storeAll hk ns ds r _ s' Q G (fun m hm => hs m (List.mem_cons_of_mem _ hm)) (by simpa using l) (k.isAll F hr) fun s'' H k' => h s'' H (k.trans k')
noncomputable def namesOf (es : List Expr) : List (Str × Pos) := es.filterMap fun | .Name x p => some (x, p) | _ => none
theorem Fs.unpack {elts : List Expr} {k : Nat} {tp : Pos} {ds : List Dt} {v : Value} {Q : Unit → Shared → Prop} {E : Value → Shared → Prop} (F : Fs w e X Ow Γ s) (hh : A.handled = none) (hk : e.scope.kind = .function) (i : Is s.heap X (.tup ds) v)
    (hs : ∀ n ∈ namesOf elts, Stores e n.1) (hl : (namesOf elts).length = ds.length)
    (h : ∀ s', Fs w e X Ow (updAll Γ (((namesOf elts).map (·.1)).zip ds)) s' → Kb e s s' → Q () s')
    (he : (assignEach elts e).map (·.2) = (namesOf elts).map fun n => PySem.assign (.Name n.1 n.2) e) (hst : (assignEach elts e).findIdx? (·.1) = none) :
    wpAny (model pw w) A (PySem.assign (.Tuple elts k tp) e v) Q E s := by
  simp only [Is] at i
  obtain ⟨a, vs, rfl, ha, ht, hi⟩ := i
  show wpAny _ _ (do standAt tp; PySem.unpack (.ref a) (assignEach elts e)) _ _ _
  have hlen : (assignEach elts e).length = vs.toArray.size := by
    have := congrArg List.length he
    simp only [List.length_map] at this
    rw [this, hl, List.size_toArray, hi.length]
  refine wpAny_bind (wpAny_standAt (unpack_tuple hh ht hlen hst fun h' hx => ?_))
  have kp : Kp s { s with heap := h' } := Kp.mk' fun b o ho => hx b o (Nat.ne_of_lt (Heap.lt_size ho)) ho
  rw [he]
  exact Fs.storeAll hk _ ds vs Γ _ Q (F.kp kp) hs hl (hi.keep kp.ext) fun s' G k => h s' G (kp.kb.trans k)
theorem Fn.assignTup {elts : List Expr} {k : Nat} {tp pos : Pos} {ds : List Dt} {ex : Expr} {Q : Flow → Shared → Prop} {E : Value → Shared → Prop} (F : Fn w s₀ Mu e X Ow Γ s) (he : Ev w A e X Ow Γ ex (.tup ds)) (hh : A.handled = none) (hk : e.scope.kind = .function)
    (hs : ∀ n ∈ namesOf elts, Stores e n.1) (hl : (namesOf elts).length = ds.length)
    (h : ∀ s', Fn w s₀ Mu e X Ow (updAll Γ (((namesOf elts).map (·.1)).zip ds)) s' → Q .next s')
    (he' : (assignEach elts e).map (·.2) = (namesOf elts).map fun n => PySem.assign (.Name n.1 n.2) e := by rfl) (hst : (assignEach elts e).findIdx? (·.1) = none := by rfl)
    (hsw : swapsWithSole [.Tuple elts k tp] ex pos.line e = pure false := by rfl)
    (hw : swappedStores [.Tuple elts k tp] ex e = pure none := by rfl) : Wp w A (exec (.Assign [.Tuple elts k tp] ex pos) e) Q E s := .mk <|
  Assign_Tuple (he.use F.toCx fun v s₁ k₁ c₁ i₁ => (F.kp k₁).toFs.unpack hh hk i₁ hs hl (fun s' G kb => h s' ((F.kp k₁).ofKb G kb)) he' hst) hsw hw

/-! ## while -/
theorem Fn.while_ {test : Expr} {body : List Stmt} {pos : Pos} {Q : Flow → Shared → Prop} {E : Value → Shared → Prop} (F : Fn w s₀ Mu e X Ow Γ s)
    (Inv : Nat → Owns → List (Str × Dt) → Prop) {n : Nat} (h0 : Inv n Ow Γ)
    (turn : ∀ n Ow' Γ' s', Inv n Ow' Γ' → Fn w s₀ Mu e X Ow' Γ' s' →
      wpAny (model pw w) A (isTrue test e (eval test e)) (fun b s₂ => if b = true then Wp w A (execs body e) (fun f s₃ => match f with
        | .next | .cont => ∃ m Ow'' Γ'', m < n ∧ Inv m Ow'' Γ'' ∧ Fn w s₀ Mu e X Ow'' Γ'' s₃
        | f => Q (match f with | .ret v => .ret v | _ => .next) s₃) Bot s₂ else Q .next s₂) Bot s') :
    Wp w A (exec (.While test body [] pos) e) Q E s := by
  refine .mk <| wpAny_While (codeAny_whileLoop (fun n s' => ∃ Ow' Γ', Inv n Ow' Γ' ∧ Fn w s₀ Mu e X Ow' Γ' s') (fun n s' hI => ?_) n ⟨Ow, Γ, h0, F⟩)
  obtain ⟨Ow', Γ', hI, G⟩ := hI
  refine wpb (turn n Ow' Γ' s' hI G) fun b s₂ h₂ => ?_
  cases b with
  | true =>
    simp only [if_true] at h₂ ⊢
    refine wpb h₂.p fun f s₃ h₃ => ?_
    cases f with
    | next => obtain ⟨m, a, b, c, d, e⟩ := h₃; exact ⟨m, c, a, b, d, e⟩
    | cont => obtain ⟨m, a, b, c, d, e⟩ := h₃; exact ⟨m, c, a, b, d, e⟩
    | brk => exact h₃
    | ret v => exact h₃
  | false =>
    simp only [Bool.false_eq_true, if_false] at h₂ ⊢
    exact wpAny_execs_nil h₂
end
end Mine

namespace Mine
open PySem PySem.W PyProof.Rows PySem.SeqAt

section
variable {w : World} {A : Around} {s₀ : Shared} {Mu : List Addr} {e : Env} {X : List Addr} {Ow : Owns} {Γ : List (Str × Dt)} {s : Shared}
noncomputable abbrev Has (Γ : List (Str × Dt)) (x : Str) (d : Dt) : Prop := Γ.lookup x = some d
theorem mem_of_look {Γ : List (Str × Dt)} {x : Str} {d : Dt} (h : Γ.lookup x = some d) : (x, d) ∈ Γ := mem_of_lookup h
theorem Ev.var {x : Str} {d : Dt} {p : Pos} (hk : e.scope.kind = .function) (hl : Γ.lookup x = some d := by rfl) (hd : (x == ("__debug__" : Str)) = false := by rfl) : Ev w A e X Ow Γ (.Name x p) d := Ev.name hk (mem_of_look hl) hd
theorem Ev.bytes {b : List UInt8} {k : Nat} {p : Pos} : Ev w A e X Ow Γ (.Constant (.bytes b) k p) (.bytes b.toArray) := .mk fun s c => W.Constant_bytes ⟨Kp.tok _ _, by simp only [Is]; exact ⟨_, rfl⟩⟩
theorem Op2.addB {b c : Array UInt8} (h : b.size + c.size ≤ 16777216) : Op2 w A X (binaryOp .Add) (.bytes b) (.bytes c) (.bytes (b ++ c)) := .mk fun s x y _ _ _ h₁ h₂ => by
  simp only [Is] at h₁ h₂; obtain ⟨t, rfl⟩ := h₁; obtain ⟨u, rfl⟩ := h₂
  exact wpKp (KBy.add_bytes h fun t' k => ⟨kq _ _, by simp only [Is]; exact ⟨_, rfl⟩⟩)
theorem OpS.bytes {b : Array UInt8} {lo hi : Option Int} (hw : KBy.whole b lo hi = false) (hz : (KBy.picked b lo hi).size ≤ 16777216) : OpS w A X (.bytes b) lo hi (.bytes (KBy.picked b lo hi)) := .mk fun s a vl vu pl pu x i => by
  simp only [Is] at i
  obtain ⟨t, rfl⟩ := i
  refine getItem_meets (typeIs_bytes _ _ _) (by decide) FB.slot_bytes_getitem FB.entry_bytes_getitem (FB.args_bytes_getitem_2 _ _) (KBy.meets_slice b t _ pl pu hw)
    ⟨Heap.IsSliceOf.new _ _ _ _, by rw [sizeLine_eq]; exact hz, Kp.tok _ _, ?_⟩
  simp only [Is]; exact ⟨_, rfl⟩
noncomputable def AllHas : List (Str × Dt) → List (Str × Dt) → Prop
  | [], _ => True
  | p :: r, Γ => Has Γ p.1 p.2 ∧ AllHas r Γ
theorem AllHas.sub {Γ : List (Str × Dt)} : ∀ {Γ' : List (Str × Dt)}, AllHas Γ' Γ → ∀ p ∈ Γ', p ∈ Γ
  | [], _, p, h => by cases h
  | q :: r, ⟨h1, h2⟩, p, h => by
    rcases List.mem_cons.mp h with rfl | h
    · exact mem_of_look h1
    · exact AllHas.sub h2 p h
/-- the frame's names, told anew -/
theorem Fn.norm (Γ' : List (Str × Dt)) (F : Fn w s₀ Mu e X Ow Γ s) (h : AllHas Γ' Γ) : Fn w s₀ Mu e X Ow Γ' s := F.weaken h.sub
/-- names that may be bound -/
theorem stores_of {l : List (Str × Pos)} {names : List (Str × NameKind)} (hk : ∀ x k, names.lookup x = some k → e.kindOf x = some k)
    (h : l.all (fun n => names.lookup n.1 == some .local && !(n.1 == ("__classdict__" : Str))) = true) : ∀ n ∈ l, Stores e n.1 := fun n hn => by
  have := List.all_eq_true.mp h n hn
  simp only [Bool.and_eq_true, beq_iff_eq, Bool.not_eq_true'] at this
  exact ⟨.inl (hk _ _ this.1), this.2⟩
theorem Room.zero {n : Nat} (r : Room n A) : Room 0 A := r.less (by omega)
end
end Mine

namespace Mine
open PySem PySem.W PyProof.Rows PySem.SeqAt

section
variable {w : World} {A : Around} {s₀ : Shared} {Mu : List Addr} {e : Env} {X : List Addr} {Ow : Owns} {Γ : List (Str × Dt)} {s : Shared} {E : Value → Shared → Prop}

theorem wpAny_alive {M : Model} {a : Addr} {Q : Option Obj → Shared → Prop} (h : Q (s.heap.get? a) s) : wpAny M A (loadIfAlive a) Q E s := fun _ _ _ => h

noncomputable abbrev ZipO (h : Heap) (z TI TO : Addr) (f0 f1 : Value) : Prop :=
  h.get? z = some { cls := .type "zip", dict := none, data := .fields #[f0, f1, .bool false, .ref TI, .ref TO], slots := #[] }

theorem own_not_free {z TI TO T : Addr} {f1 : Value} {oT : Obj} {Q : Bool → Shared → Prop} (hz : ZipO s.heap z TI TO (rawInt T) f1) (hT : s.heap.get? T = some oT)
    (hQ : ∀ h₀, ZipO h₀ z TI TO (rawInt T) (.bool true) → Heap.SameBut z s.heap h₀ → Q false { s with heap := h₀ }) : wpAny (model pw w) A (Builtin.SmallTypes.ownedTupleIsFree (.ref z)) Q E s := by
  unfold Builtin.SmallTypes.ownedTupleIsFree
  refine wpAny_bind (wpAny_field hz rfl (x := rawInt T) rfl ?_)
  show wpAny _ _ (loadIfAlive ((T : Int)).toNat >>= _) _ _ _
  refine wpAny_bind (wpAny_alive ?_)
  rw [Int.toNat_natCast, hT]
  simp only [Option.isNone_some, Bool.false_eq_true, if_false]
  refine wpAny_bind (wpAny_field hz rfl (x := f1) rfl ?_)
  by_cases hf : f1 = .bool true
  · subst hf
    exact wpAny_pure (hQ _ hz ⟨rfl, fun _ _ => rfl⟩)
  · have : (f1 != .bool true) = true := by simpa using hf
    rw [if_pos this]
    exact wpAny_bind (wpAny_setField_rec hz (by simp) fun h' hz' hs' => wpAny_pure (hQ h' hz' hs'))
theorem zip_next_out {z TI TO i1 i2 l1 l2 T : Addr} {k1 k2 : Nat} {xs ys : Array Value} {x y : Value} {f1 : Value} {oT : Obj} {Q : Value → Shared → Prop} (D : ZipApart z TI TO i1 i2 l1 l2)
    (hz : ZipO s.heap z TI TO (rawInt T) f1) (hT : s.heap.get? T = some oT) (hTI : IsPair s.heap TI (.ref i1) (.ref i2))
    (h1 : s.heap.IsListIter i1 l1 k1) (h2 : s.heap.IsListIter i2 l2 k2) (hl1 : s.heap.IsList l1 xs) (hl2 : s.heap.IsList l2 ys) (hx : xs[k1]? = some x) (hy : ys[k2]? = some y)
    (hQ : ∀ h', ZipO h' z TI TO (rawInt T) (.bool true) → h'.IsListIter i1 l1 (k1 + 1) → h'.IsListIter i2 l2 (k2 + 1) → IsPair h' s.heap.objs.size x y →
      (∀ c o, c ≠ z → c ≠ i1 → c ≠ i2 → s.heap.get? c = some o → h'.get? c = some o) → Q (.ref s.heap.objs.size) { s with heap := h' }) :
    wpAny (model pw w) A (Builtin.«zip.__next__» ⟨[.ref z], []⟩) (fun fin s' => ∃ v, fin = .done (.ret v) ∧ Q v s') E s := by
  show wpAny _ _ (field (.ref z) 2 >>= _) _ _ _
  refine wpAny_bind (wpAny_field hz rfl (x := .bool false) rfl ?_)
  show wpAny _ _ (field (.ref z) 3 >>= _) _ _ _
  refine wpAny_bind (wpAny_field hz rfl (x := .ref TI) rfl ?_)
  refine wpAny_bind (wpAny_seqItems hTI rfl ?_)
  show wpAny _ _ (Builtin.SmallTypes.ownedTupleIsFree (.ref z) >>= _) _ _ _
  refine wpAny_bind ?_
  refine own_not_free hz hT fun h₀ hz₀ hs₀ => ?_
  have g1 : h₀.IsListIter i1 l1 k1 := h1.extBut hs₀.extBut D.i1z
  have g2 : h₀.IsListIter i2 l2 k2 := h2.extBut hs₀.extBut D.i2z
  have m1 : h₀.IsList l1 xs := hl1.extBut hs₀.extBut D.l1z
  have m2 : h₀.IsList l2 ys := hl2.extBut hs₀.extBut D.l2z
  simp only [Bool.false_eq_true, if_false, ← Array.forIn_toList, List.forIn_cons, List.forIn_nil]
  refine wpAny_bind (wpAny_bind (wpAny_bind (wpAny_holding ?_)))
  show wpAny _ _ (Builtin.SmallTypes.nextOf (.ref i1) >>= _) _ _ _
  refine wpAny_bind (wpAny_nextOf_list_item g1 m1 hx fun h₁ g1' hs₁ => wpAny_pure ?_)
  refine wpAny_pure ?_
  refine wpAny_bind (wpAny_bind (wpAny_holding ?_))
  show wpAny _ _ (Builtin.SmallTypes.nextOf (.ref i2) >>= _) _ _ _
  refine wpAny_bind (wpAny_nextOf_list_item (g2.extBut hs₁.extBut D.i12.symm) (m2.extBut hs₁.extBut D.l2i1) hy fun h₂ g2' hs₂ => wpAny_pure ?_)
  refine wpAny_pure (wpAny_pure ?_)
  refine wpAny_bind (wpAny_newTuple (hsz := by show 2 ≤ sizeLine; decide) (wpAny_pure ⟨_, rfl, ?_⟩))
  have hsz : h₂.objs.size = s.heap.objs.size := by rw [hs₂.1, hs₁.1, hs₀.1]
  show Q (.ref h₂.objs.size) { s with heap := h₂.push { cls := .type "tuple", data := .seq #[x, y] } }
  have q := hQ (h₂.push { cls := .type "tuple", data := .seq #[x, y] }) (Heap.get?_push_of_some _ (hs₂.extBut _ _ D.i2z.symm (hs₁.extBut _ _ D.i1z.symm hz₀)))
    (((Heap.IsListIter.extBut g1' hs₂.extBut D.i12)).at fun o h => Heap.get?_push_of_some _ h) (g2'.at fun o h => Heap.get?_push_of_some _ h) (hsz ▸ Heap.get?_push_size _ rfl)
    fun c o c1 c2 c3 ho => Heap.get?_push_of_some _ (hs₂.extBut _ _ c3 (hs₁.extBut _ _ c2 (hs₀.extBut _ _ c1 ho)))
  rw [hsz]; exact q

theorem zip_end_out {z TI TO i1 i2 l1 l2 T : Addr} {k1 : Nat} {xs : Array Value} {f1 : Value} {oT : Obj} {Q : Fin → Shared → Prop} (hh : A.handled = none) (D : ZipApart z TI TO i1 i2 l1 l2)
    (hz : ZipO s.heap z TI TO (rawInt T) f1) (hT : s.heap.get? T = some oT) (hTI : IsPair s.heap TI (.ref i1) (.ref i2))
    (h1 : s.heap.IsListIter i1 l1 k1) (hl1 : s.heap.IsList l1 xs) (hx : xs[k1]? = none)
    (hE : ∀ h' e, (∀ c o, c ≠ z → c ≠ i1 → c ≠ i2 → s.heap.get? c = some o → h'.get? c = some o) → (∃ o, h'.get? e = some o ∧ o.cls = .type "StopIteration") → E (.ref e) { s with heap := h' }) :
    wpAny (model pw w) A (Builtin.«zip.__next__» ⟨[.ref z], []⟩) Q E s := by
  show wpAny _ _ (field (.ref z) 2 >>= _) _ _ _
  refine wpAny_bind (wpAny_field hz rfl (x := .bool false) rfl ?_)
  show wpAny _ _ (field (.ref z) 3 >>= _) _ _ _
  refine wpAny_bind (wpAny_field hz rfl (x := .ref TI) rfl ?_)
  refine wpAny_bind (wpAny_seqItems hTI rfl ?_)
  show wpAny _ _ (Builtin.SmallTypes.ownedTupleIsFree (.ref z) >>= _) _ _ _
  refine wpAny_bind ?_
  refine own_not_free hz hT fun h₀ hz₀ hs₀ => ?_
  have g1 : h₀.IsListIter i1 l1 k1 := h1.extBut hs₀.extBut D.i1z
  have m1 : h₀.IsList l1 xs := hl1.extBut hs₀.extBut D.l1z
  simp only [Bool.false_eq_true, if_false, ← Array.forIn_toList, List.forIn_cons, List.forIn_nil]
  refine wpAny_bind (wpAny_bind (wpAny_bind (wpAny_holding ?_)))
  show wpAny _ _ (Builtin.SmallTypes.nextOf (.ref i1) >>= _) _ _ _
  refine wpAny_bind (wpAny_nextOf_list_end hh g1 m1 hx fun h₂ e hs₂ he => ?_)
  exact hE h₂ e (fun c o c1 c2 _ ho => hs₂ _ _ c2 (hs₀.extBut _ _ c1 ho)) he

/-- the zip after i pairs that are kept -/
noncomputable def ZipAt (h : Heap) (z TI TO i1 i2 l1 l2 : Addr) (i : Nat) : Prop :=
  ((ZipO h z TI TO .none (.bool false)) ∨ (∃ (T : Addr) (f1 : Value) (o : Obj), ZipO h z TI TO (rawInt T) f1 ∧ h.get? T = some o ∧ T ≠ z ∧ T ≠ TO ∧ T ≠ i1 ∧ T ≠ i2)) ∧
  IsPair h TI (.ref i1) (.ref i2) ∧ (∃ a b, IsPair h TO a b) ∧ h.IsListIter i1 l1 i ∧ h.IsListIter i2 l2 i
theorem ZipAt.keep {h h' : Heap} {z TI TO i1 i2 l1 l2 : Addr} {i : Nat} (k : Ext h h') (x : ZipAt h z TI TO i1 i2 l1 l2 i) : ZipAt h' z TI TO i1 i2 l1 l2 i := by
  obtain ⟨a, b, ⟨c, d, e⟩, f, g⟩ := x
  refine ⟨?_, k _ _ b, ⟨c, d, k _ _ e⟩, f.at fun o h => k _ o h, g.at fun o h => k _ o h⟩
  rcases a with a | ⟨T, f1, o, a, b, r⟩
  · exact .inl (k _ _ a)
  · exact .inr ⟨T, f1, o, k _ _ a, k _ _ b, r⟩
theorem ZipAt.keepBut {h h' : Heap} {z TI TO i1 i2 l1 l2 S : Addr} {i : Nat} {oS : Obj} (k : ∀ b o, b ≠ S → h.get? b = some o → h'.get? b = some o) (hS : h'.get? S = some oS) (n : S ∉ [z, TO, i1, i2]) (nt : TI ≠ S) (x : ZipAt h z TI TO i1 i2 l1 l2 i) : ZipAt h' z TI TO i1 i2 l1 l2 i := by
  simp only [List.mem_cons, List.not_mem_nil, or_false, not_or] at n
  obtain ⟨n1, n2, n3, n4⟩ := n
  obtain ⟨a, b, ⟨c, d, e⟩, f, g⟩ := x
  refine ⟨?_, k _ _ nt b, ⟨c, d, k _ _ (Ne.symm n2) e⟩, f.at fun o h => k _ o (Ne.symm n3) h, g.at fun o h => k _ o (Ne.symm n4) h⟩
  rcases a with a | ⟨T, f1, o, a, b, r⟩
  · exact .inl (k _ _ (Ne.symm n1) a)
  · by_cases q : T = S
    · exact .inr ⟨T, f1, oS, k _ _ (Ne.symm n1) a, q ▸ hS, r⟩
    · exact .inr ⟨T, f1, o, k _ _ (Ne.symm n1) a, k _ _ q b, r⟩
theorem not4 {a b c d : Addr} {h h' : Heap} (k : ∀ x o, x ≠ a → x ≠ b → x ≠ c → x ≠ d → h.get? x = some o → h'.get? x = some o) : ∀ x o, x ∉ [a, b, c, d] → h.get? x = some o → h'.get? x = some o := fun x o hx ho => by
  simp only [List.mem_cons, List.not_mem_nil, or_false, not_or] at hx
  exact k x o hx.1 hx.2.1 hx.2.2.1 hx.2.2.2 ho
theorem zip_item {z TI TO i1 i2 l1 l2 : Addr} {i : Nat} {xs ys : Array Value} {x y : Value} {Q : Option Value → Shared → Prop} (D : ZipApart z TI TO i1 i2 l1 l2)
    (hz : ZipAt s.heap z TI TO i1 i2 l1 l2 i) (hl1 : s.heap.IsList l1 xs) (hl2 : s.heap.IsList l2 ys) (hx : xs[i]? = some x) (hy : ys[i]? = some y)
    (hQ : ∀ h', ZipAt h' z TI TO i1 i2 l1 l2 (i + 1) → IsPair h' s.heap.objs.size x y → (∀ c o, c ∉ [z, TO, i1, i2] → s.heap.get? c = some o → h'.get? c = some o) →
      Q (some (.ref s.heap.objs.size)) { s with heap := h' }) : wpAny (model pw w) A (pyNext (.ref z)) Q E s := by
  obtain ⟨hz, hTI, ⟨a, b, hTO⟩, h1, h2⟩ := hz
  have lt : ∀ {c : Addr} {o : Obj}, s.heap.get? c = some o → s.heap.objs.size ≠ c := fun e => Nat.ne_of_gt (Heap.lt_size e)
  have n1 : s.heap.objs.size ≠ i1 := by obtain ⟨_, e, _⟩ := h1; exact lt e
  have n2 : s.heap.objs.size ≠ i2 := by obtain ⟨_, e, _⟩ := h2; exact lt e
  rcases hz with hz | ⟨T, f1, o, hz, hT, t1, t2, t3, t4⟩
  · exact wpAny_pyNext_zip_item D hz hTI hTO h1 h2 hl1 hl2 hx hy fun h' a1 a2 a3 a4 a5 a6 hk =>
      hQ h' ⟨.inr ⟨s.heap.objs.size, _, _, a1, a5, lt hz, lt hTO, n1, n2⟩, hk _ _ D.TIz D.TITO D.TIi1 D.TIi2 hTI, ⟨_, _, a2⟩, a3, a4⟩ a5 (not4 hk)
  · have hT' : s.TypeIs (.ref z) "zip" := ⟨_, hz, rfl⟩
    unfold pyNext
    exact wpAny_bind (wpAny_attempt (wpAny_callSpecial?_slot (name := Str.ofString "__next__") hT' F.slot_zip_next
      (wpAny_call_entry F.slot_zip_next hT' F.entry_zip_next
        (zip_next_out D hz hT hTI h1 h2 hl1 hl2 hx hy fun h' a1 a3 a4 a5 hk => wpAny_pure (hQ h' ⟨.inr ⟨T, _, o, a1, hk _ _ t1 t3 t4 hT, t1, t2, t3, t4⟩, hk _ _ D.TIz D.TIi1 D.TIi2 hTI, ⟨a, b, hk _ _ D.TOz D.TOi1 D.TOi2 hTO⟩, a3, a4⟩ a5
          (not4 fun c o c1 c2 c3 c4 ho => hk c o c1 c3 c4 ho))) (F.args_zip_next_1 _))))
theorem zip_end {z TI TO i1 i2 l1 l2 : Addr} {i : Nat} {xs ys : Array Value} {Q : Option Value → Shared → Prop} (hh : A.handled = none) (D : ZipApart z TI TO i1 i2 l1 l2)
    (hz : ZipAt s.heap z TI TO i1 i2 l1 l2 i) (hl1 : s.heap.IsList l1 xs) (hl2 : s.heap.IsList l2 ys) (hx : xs[i]? = none)
    (hQ : ∀ h', (∀ c o, c ∉ [z, TO, i1, i2] → s.heap.get? c = some o → h'.get? c = some o) → Q none { s with heap := h' }) : wpAny (model pw w) A (pyNext (.ref z)) Q E s := by
  obtain ⟨hz, hTI, ⟨a, b, hTO⟩, h1, h2⟩ := hz
  rcases hz with hz | ⟨T, f1, o, hz, hT, t1, t2, t3, t4⟩
  · exact wpAny_pyNext_zip_end hh D hz hTI hTO h1 h2 hl1 hl2 (.inl hx) fun h' hk => hQ h' (not4 hk)
  · have hT' : s.TypeIs (.ref z) "zip" := ⟨_, hz, rfl⟩
    unfold pyNext
    refine wpAny_bind (wpAny_attempt (wpAny_callSpecial?_slot (name := Str.ofString "__next__") hT' F.slot_zip_next
      (wpAny_call_entry F.slot_zip_next hT' F.entry_zip_next (zip_end_out hh D hz hT hTI h1 hl1 hx fun h' e hk he => ?_) (F.args_zip_next_1 _))))
    obtain ⟨o, ho, hc⟩ := he
    refine wpAny_bind (wpAny_isInstance (T := "StopIteration") (b := true) ⟨o, ho, hc⟩ isSubtype_stop ?_)
    exact wpAny_pure (hQ _ (not4 fun c o c1 _ c3 c4 ho => hk c o c1 c3 c4 ho))

/-! ## list(zip(x, y)) -/
theorem zip_no_len : typeLookup (.type "zip") "__len__" = pure none := by rw [typeLookup_type, builtinLookup_eq_fast]; kernel_rfl
theorem zip_no_hint : typeLookup (.type "zip") "__length_hint__" = pure none := by rw [typeLookup_type, builtinLookup_eq_fast]; kernel_rfl

/-- what list() has of the pairs -/
noncomputable def Pairs (h : Heap) (X : List Addr) (ds es : List Dt) (acc : Array Value) (i : Nat) : Prop := IsAll h X (((ds.zip es).take i).map fun p => .tup [p.1, p.2]) acc.toList
theorem extend_zip {R : Result → Shared → Prop} {z TI TO i1 i2 l1 l2 S : Addr} {xs ys : List Value} {ds es : List Dt} {res : Value} (hh : A.handled = none) (D : ZipApart z TI TO i1 i2 l1 l2) (hlen : ds.length = es.length) (hsz : ds.length ≤ sizeLine)
    (hS : S ∉ [z, TO, i1, i2]) (hSTI : TI ≠ S) (hSl : l1 ≠ S ∧ l2 ≠ S) (hX : l1 ∉ S :: ([z, TO, i1, i2] ++ X) ∧ l2 ∉ S :: ([z, TO, i1, i2] ++ X)) :
    ∀ (k i : Nat) (s : Shared) (acc : Array Value) (c : Nat), ds.length - i = k → i ≤ ds.length → ZipAt s.heap z TI TO i1 i2 l1 l2 i → s.heap.PlainList l1 xs.toArray → s.heap.PlainList l2 ys.toArray →
    IsAll s.heap (S :: ([z, TO, i1, i2] ++ X)) ds xs → IsAll s.heap (S :: ([z, TO, i1, i2] ++ X)) es ys → Xin (S :: ([z, TO, i1, i2] ++ X)) s →
    s.heap.get? S = some { cls := .type "list", dict := none, data := .seq acc c, slots := #[] } → Pairs s.heap (S :: ([z, TO, i1, i2] ++ X)) ds es acc i →
    (∀ s' acc' c', Kw [S, z, TO, i1, i2] s s' → s'.heap.get? S = some { cls := .type "list", dict := none, data := .seq acc' c', slots := #[] } → Pairs s'.heap (S :: ([z, TO, i1, i2] ++ X)) ds es acc' ds.length → R (.ok (.ret res)) s') →
    codeAny (model pw w) A (.builtin "list.extend.loop" ⟨[.ref S, .ref z, res], []⟩) R s := by
  intro k
  induction k with
  | zero =>
    intro i s acc c hk hi hz hl1 hl2 hx hy xin hSo hacc hR
    have hin : i = ds.length := by omega
    subst hin
    refine codeAny_builtin F.entry_extend_loop ?_
    rw [Around.under_plainId F.plain_extend_loop _]
    show wpAny _ A.in1 (pyNext (.ref z) >>= _) _ _ s
    refine wpAny_bind (zip_end (A := A.in1) hh D hz hl1.isList hl2.isList (by simp [hx.length]) fun h' kk => ?_)
    refine wpAny_pure (hR _ acc c ⟨Nat.le_refl _, ⟨h', s.toks, rfl⟩, fun b o hb ho => kk b o (fun hm => hb (List.mem_cons_of_mem _ hm)) ho⟩ (kk S _ hS hSo) ?_)
    exact hacc.ext fun b o hb ho => ⟨kk b o (fun hm => hb (List.mem_cons_of_mem _ (List.mem_append_left _ hm))) ho, hb⟩
  | succ k ih =>
    intro i s acc c hk hi hz hl1 hl2 hx hy xin hSo hacc hR
    have hlt : i < ds.length := by omega
    refine codeAny_builtin F.entry_extend_loop ?_
    rw [Around.under_plainId F.plain_extend_loop _]
    show wpAny _ A.in1 (pyNext (.ref z) >>= _) _ _ s
    have e1 : ds[i]? = some ds[i] := List.getElem?_eq_getElem hlt
    have e2 : es[i]? = some (es[i]'(by omega)) := List.getElem?_eq_getElem (by omega)
    obtain ⟨x, hxv, hxi⟩ := hx.nth e1
    obtain ⟨y, hyv, hyi⟩ := hy.nth e2
    refine wpAny_bind (zip_item (A := A.in1) D hz hl1.isList hl2.isList (x := x) (y := y) (by simpa using hxv) (by simpa using hyv) fun h' hz' hT kk => ?_)
    have out : ∀ b o, b ∉ S :: ([z, TO, i1, i2] ++ X) → s.heap.get? b = some o → h'.get? b = some o ∧ b ∉ S :: ([z, TO, i1, i2] ++ X) := fun b o hb ho => ⟨kk b o (fun hm => hb (List.mem_cons_of_mem _ (List.mem_append_left _ hm))) ho, hb⟩
    have hS' : h'.get? S = some { cls := .type "list", dict := none, data := .seq acc c, slots := #[] } := kk S _ hS hSo
    show wpAny _ A.in1 (updateSeq S (·.push (.ref s.heap.objs.size)) >>= _) _ _ _
    refine wpAny_bind ?_
    have hacc_len : acc.size = i := by
      have := hacc.length
      simp only [Array.length_toList, List.length_map, List.length_take, List.length_zip] at this
      omega
    have other : ∀ b o, b ≠ S → h'.get? b = some o → (h'.update S (Obj.mapSeq (·.push (.ref s.heap.objs.size)))).get? b = some o := fun b o hb ho => (Heap.get?_update_other _ _ (Ne.symm hb)).trans ho
    refine wpAny_updateSeq hS' rfl (wpAny_pure ⟨plainId_quiet F.plain_extend_loop _, ih (i + 1) _ (acc.push (.ref s.heap.objs.size)) _ (by omega) hlt ?_ ?_ ?_ ?_ ?_ ?_ (Heap.get?_update_self _ hS' rfl) ?_ fun s'' acc' c' kw'' hS'' hacc' => ?_⟩)
      (by rw [hacc_len]; omega) (by show (acc.push _).size ≤ sizeLine + 1; rw [Array.size_push, hacc_len]; omega)
    · exact hz'.keepBut other (Heap.get?_update_self _ hS' rfl) hS hSTI
    · exact (hl1.at fun o h => (out _ o hX.1 h).1).at fun o h => other _ o hSl.1 h
    · exact (hl2.at fun o h => (out _ o hX.2 h).1).at fun o h => other _ o hSl.2 h
    · exact (hx.ext out).ext fun b o hb ho => ⟨other b o (fun q => hb (q ▸ List.mem_cons_self)) ho, hb⟩
    · exact (hy.ext out).ext fun b o hb ho => ⟨other b o (fun q => hb (q ▸ List.mem_cons_self)) ho, hb⟩
    · intro a ha
      by_cases q : a = S
      · rw [q]; exact ⟨_, Heap.get?_update_self _ hS' rfl⟩
      · have : ∃ o, h'.get? a = some o := by
          by_cases q2 : a ∈ [z, TO, i1, i2]
          · obtain ⟨hz1, _, ⟨_, _, hTO'⟩, ⟨_, hi1, _⟩, ⟨_, hi2, _⟩⟩ := id hz'
            simp only [List.mem_cons, List.not_mem_nil, or_false] at q2
            rcases q2 with rfl | rfl | rfl | rfl
            · rcases hz1 with hz1 | ⟨_, _, _, hz1, _⟩
              · exact ⟨_, hz1⟩
              · exact ⟨_, hz1⟩
            · exact ⟨_, hTO'⟩
            · exact ⟨_, hi1⟩
            · exact ⟨_, hi2⟩
          · obtain ⟨o, ho⟩ := xin a ha
            exact ⟨o, kk a o q2 ho⟩
        obtain ⟨o, ho⟩ := this
        exact ⟨o, other a o q ho⟩
    · have e3 : (ds.zip es)[i]? = some (ds[i], es[i]'(by omega)) := by rw [List.getElem?_zip_eq_some]; exact ⟨e1, e2⟩
      have hnew := xin.new
      have hSz : s.heap.objs.size ≠ S := fun q => hnew (q ▸ List.mem_cons_self)
      unfold Pairs
      rw [List.take_add_one, e3]
      simp only [Option.toList_some, List.map_append, List.map_cons, List.map_nil, Array.toList_push]
      have out2 : ∀ b o, b ∉ S :: ([z, TO, i1, i2] ++ X) → s.heap.get? b = some o → (h'.update S (Obj.mapSeq (·.push (.ref s.heap.objs.size)))).get? b = some o ∧ b ∉ S :: ([z, TO, i1, i2] ++ X) := fun b o hb ho => ⟨other b o (fun q => hb (q ▸ List.mem_cons_self)) (out b o hb ho).1, hb⟩
      refine IsAll.append (hacc.ext out2) ?_
      simp only [IsAll, Is]
      exact ⟨_, _, rfl, ⟨_, [x, y], rfl, hnew, ⟨_, other _ _ hSz hT, rfl, _, rfl⟩, _, _, rfl, hxi.ext out2, _, _, rfl, hyi.ext out2, rfl⟩, rfl⟩
    · have kwA : Kw [S, z, TO, i1, i2] s { s with heap := h'.update S (Obj.mapSeq (·.push (.ref s.heap.objs.size))) } :=
        ⟨Nat.le_refl _, ⟨_, s.toks, rfl⟩, fun b o hb ho => other b o (fun q => hb (q ▸ List.mem_cons_self)) (kk b o (fun hm => hb (List.mem_cons_of_mem _ hm)) ho)⟩
      exact hR s'' acc' c' (kwA.trans kw'') hS'' hacc'

theorem list_zip_call {z TI TO i1 i2 l1 l2 : Addr} {xs ys : List Value} {ds es : List Dt} {Q : Value → Shared → Prop} (hh : A.handled = none) (D : ZipApart z TI TO i1 i2 l1 l2) (hlen : ds.length = es.length) (hsz : ds.length ≤ sizeLine)
    (hz : ZipAt s.heap z TI TO i1 i2 l1 l2 0) (hl1 : s.heap.PlainList l1 xs.toArray) (hl2 : s.heap.PlainList l2 ys.toArray)
    (hX : l1 ∉ [z, TO, i1, i2] ++ X ∧ l2 ∉ [z, TO, i1, i2] ++ X) (hx : IsAll s.heap ([z, TO, i1, i2] ++ X) ds xs) (hy : IsAll s.heap ([z, TO, i1, i2] ++ X) es ys) (xin : Xin ([z, TO, i1, i2] ++ X) s)
    (hQ : ∀ s' acc' c', Kw [z, TO, i1, i2] s s' → s'.heap.get? s.heap.objs.size = some { cls := .type "list", dict := none, data := .seq acc' c', slots := #[] } →
      IsAll s'.heap (s.heap.objs.size :: ([z, TO, i1, i2] ++ X)) ((ds.zip es).map fun p => .tup [p.1, p.2]) acc'.toList → Q (.ref s.heap.objs.size) s') :
    wpAny (model pw w) A (call (.type "list") [.ref z]) Q E s := by
  refine callType_codes (Q₁ := fun obj s₁ => obj = .ref s.heap.objs.size ∧ s₁ = { s with heap := s.heap.push { cls := .type "list", data := .seq #[] } }) F.called_list (F.typeCall_list_1 _) F.entry_list_init
    (code_list_new _ ⟨rfl, rfl⟩) fun obj s₁ h₁ => ?_
  obtain ⟨rfl, rfl⟩ := h₁
  generalize hSe : s.heap.objs.size = S at *
  have hSn : s.heap.get? S = none := by
    cases q : s.heap.get? S with
    | none => rfl
    | some o => exact absurd (Heap.lt_size q) (by rw [hSe]; exact Nat.lt_irrefl _)
  have ne : ∀ {b : Addr} {o : Obj}, s.heap.get? b = some o → b ≠ S := fun {b o} ho q => by rw [q, hSn] at ho; cases ho
  have hS : (s.heap.push { cls := .type "list", data := .seq #[] }).get? S = some { cls := .type "list", data := .seq #[] } := hSe ▸ Heap.get?_push_size _ rfl
  have up : Ext s.heap (s.heap.push { cls := .type "list", data := .seq #[] }) := fun b o h => Heap.get?_push_of_some _ h
  have hTz : s.TypeIs (.ref z) "zip" := by
    rcases hz.1 with h | ⟨_, _, _, h, _⟩
    · exact ⟨_, h, rfl⟩
    · exact ⟨_, h, rfl⟩
  have hTI := hz.2.1
  refine ⟨⟨_, hS, rfl⟩, F.args_list_init_2 _ _, ?_⟩
  show wpAny _ A.in1.in1 (do let old ← Builtin.List.listItems (.ref S); Builtin.List.listUpdate (.ref S) (fun _ => #[]); letGo old.toList.reverse; Builtin.List.listExtendWith (.ref S) (.ref z) .none) _ _ _
  refine wpAny_bind ?_
  unfold Builtin.List.listItems
  refine wpAny_bind (wpAny_seqItems hS rfl (wpAny_pure ?_))
  show wpAny _ A.in1.in1 (updateSeq S (fun _ => #[]) >>= fun _ => letGo (#[] : Array Value).toList.reverse >>= fun _ => Builtin.List.listExtendWith (.ref S) (.ref z) .none) _ _ _
  refine wpAny_bind (wpAny_updateSeq hS rfl ?_)
  have hS₂ := Heap.get?_update_self (Obj.mapSeq (fun _ => (#[] : Array Value))) hS rfl
  have o₂ : ∀ b o, b ≠ S → s.heap.get? b = some o → ((s.heap.push { cls := .type "list", data := .seq #[] }).update S (Obj.mapSeq (fun _ => (#[] : Array Value)))).get? b = some o :=
    fun b o hb e => (Heap.get?_update_other _ _ (Ne.symm hb)).trans (up b o e)
  refine wpAny_bind (wpAny_letGo ?_)
  generalize hH2 : (s.heap.push { cls := .type "list", data := .seq #[] }).update S (Obj.mapSeq (fun _ => (#[] : Array Value))) = H2 at *
  have z₂ : ∀ b o, s.heap.get? b = some o → H2.get? b = some o := fun b o h => o₂ b o (ne h) h
  have hTz₂ : Shared.TypeIs { s with heap := H2 } (.ref z) "zip" := by
    obtain ⟨o, h, c⟩ := hTz; exact ⟨o, z₂ _ _ h, c⟩
  have hzn : z ≠ S := by obtain ⟨o, h, _⟩ := hTz; exact ne h
  unfold Builtin.List.listExtendWith
  refine wpAny_bind (wpAny_typeOf hTz₂ ?_)
  have h1 : Builtin.List.listSameRef (.ref S) (.ref z) = false := by simp [Builtin.List.listSameRef, Ne.symm hzn]
  have h2 : (Value.type "zip" == Value.type "list") = false := by decide
  have h3 : (Value.type "zip" == Value.type "tuple") = false := by decide
  simp only [h1, h2, h3, Bool.or_false, Bool.false_eq_true, if_false]
  have hzip₂ : ∃ f0 f1, ZipO H2 z TI TO f0 f1 := by
    rcases hz.1 with h | ⟨_, _, _, h, _⟩
    · exact ⟨_, _, z₂ _ _ h⟩
    · exact ⟨_, _, z₂ _ _ h⟩
  obtain ⟨f0, f1, hzo⟩ := hzip₂
  refine wpAny_bind (wpAny_pyIter_slot hTz₂ F.slot_zip_iter (wpAny_call_entry F.slot_zip_iter hTz₂ F.entry_zip_iter ?_ (F.args_zip_iter_1 _)))
  show wpAny _ _ (ret (.ref z)) _ _ _
  refine wpAny_pure ⟨_, rfl, "zip", _, hTz₂, F.slot_zip_next.lookup, ?_⟩
  refine wpAny_bind (wpAny_holding ?_)
  unfold Builtin.List.listLengthHint
  refine wpAny_bind (wpAny_specialOf hTz₂ zip_no_len ?_)
  show wpAny _ A.in1.in1 (specialOf (Value.ref z) (Str.ofString "__length_hint__") >>= _) _ _ _
  refine wpAny_bind (wpAny_specialOf hTz₂ zip_no_hint ?_)
  refine wpAny_pure ?_
  show wpAny _ A.in1.in1 (rule "list.extend.makes-room" >>= fun _ => Builtin.List.listTouch (.ref S) >>= fun _ =>
    again (.builtin "list.extend.loop" ⟨[.ref S, .ref z, .none], []⟩)) _ _ _
  refine wpAny_bind (wpAny_rule ?_)
  refine wpAny_bind ?_
  show wpAny _ A.in1.in1 (updateSeq S (·.push .none) >>= fun _ => updateSeq S (·.pop)) _ _ _
  refine wpAny_bind (wpAny_updateSeq hS₂ rfl ?_)
  have hS₃ := Heap.get?_update_self (Obj.mapSeq (·.push Value.none)) hS₂ rfl
  refine wpAny_updateSeq (hz := by seq_fits) hS₃ rfl ?_
  have hS₄ := Heap.get?_update_self (Obj.mapSeq (·.pop)) hS₃ rfl
  have oth : ∀ b o, b ≠ S → s.heap.get? b = some o → ((H2.update S (Obj.mapSeq (·.push Value.none))).update S (Obj.mapSeq (·.pop))).get? b = some o :=
    fun b o hb e => (Heap.get?_update_other _ _ (Ne.symm hb)).trans ((Heap.get?_update_other _ _ (Ne.symm hb)).trans (z₂ b o e))
  generalize hH4 : (H2.update S (Obj.mapSeq (·.push Value.none))).update S (Obj.mapSeq (·.pop)) = H4 at *
  have ex4 : Ext s.heap H4 := fun b o h => oth b o (ne h) h
  have nl1 : l1 ≠ S := by obtain ⟨n, h⟩ := hl1; exact ne h
  have nl2 : l2 ≠ S := by obtain ⟨n, h⟩ := hl2; exact ne h
  have nSW : S ∉ [z, TO, i1, i2] := fun hm => by
    obtain ⟨o, ho⟩ := xin S (List.mem_append_left _ hm)
    exact ne ho rfl
  have cons : ∀ {b : Addr}, b ≠ S → b ∉ [z, TO, i1, i2] ++ X → b ∉ S :: ([z, TO, i1, i2] ++ X) := fun {b} h1 h2 hm => by
    rcases List.mem_cons.mp hm with q | q
    · exact h1 q
    · exact h2 q
  have out4 : ∀ b o, b ∉ [z, TO, i1, i2] ++ X → s.heap.get? b = some o → H4.get? b = some o ∧ b ∉ S :: ([z, TO, i1, i2] ++ X) := fun b o hb ho => ⟨ex4 b o ho, cons (ne ho) hb⟩
  refine wpAny_pure ⟨plainId_quiet F.plain_extend_loop _, extend_zip (A := A.in1) (X := X) (xs := xs) (ys := ys) (ds := ds) (es := es) hh D hlen hsz nSW (ne hTI) ⟨nl1, nl2⟩ ⟨cons nl1 hX.1, cons nl2 hX.2⟩
    ds.length 0 _ _ _ rfl (Nat.zero_le _) (hz.keep ex4) (hl1.at fun o h => ex4 _ o h) (hl2.at fun o h => ex4 _ o h) (hx.ext out4) (hy.ext out4) (fun a ha => ?_) hS₄ ?_ fun s' acc' c' kw hS' hacc => ?_⟩
  · rcases List.mem_cons.mp ha with rfl | ha
    · exact ⟨_, hS₄⟩
    · obtain ⟨o, ho⟩ := xin a ha; exact ⟨o, ex4 a o ho⟩
  · simp [Pairs, IsAll]
  · refine ⟨rfl, hQ s' acc' c' ⟨kw.tk, ?_, fun b o hb ho => kw.keep b o (fun hm => ?_) (ex4 b o ho)⟩ hS' ?_⟩
    · obtain ⟨h, t, e⟩ := kw.same
      exact ⟨h, t, by rw [e]⟩
    · rcases List.mem_cons.mp hm with q | q
      · exact ne ho q
      · exact hb q
    · unfold Pairs at hacc
      rw [List.take_of_length_le (by simp only [List.length_zip]; omega)] at hacc
      exact hacc

/-- list(zip(x, y)) -/
theorem Ev.listZip {p p' pos pos' : Pos} {es : List Expr} {ds ds' : List Dt} (gv : GEnv e) (hh : A.handled = Option.none) (hk : e.kindOf "list" = some .globalImplicit) (hk' : e.kindOf "zip" = some .globalImplicit)
    (hv : GlobV w.params "list" (.type "list")) (hv' : GlobV w.params "zip" (.type "zip"))
    (ha : EvAll w A e X Ow Γ pos' es [.lst ds, .lst ds']) (hlen : ds.length = ds'.length) (hsz : ds.length ≤ sizeLine)
    (hst : ∃ x r, backTo pos' (starEach es e) = (false, x) :: r := by exact ⟨_, _, rfl⟩) (hpl : (backTo pos' (starEach es e)).any (·.1) = false := by rfl) :
    Ev w A e X Ow Γ (.Call (.Name "list" p) [.Call (.Name "zip" p') es [] pos'] [] pos) (.lst ((ds.zip ds').map fun q => .tup [q.1, q.2])) := .mk fun s c => by
  obtain ⟨x, r, hst⟩ := hst
  refine wpAny_Call_NameR (hv.load gv hk c.wd ?_ rfl)
  refine callWith_fv (.ty _) c.wd rfl rfl (wpAny_items_cons ?_ rfl)
  refine wpAny_Call_NameR (hv'.load gv hk' c.wd ?_ rfl)
  refine callWith_fv (.ty _) c.wd hst hpl (wpb (ha.h s c) fun vs s₁ ⟨k₁, i₁⟩ => ?_)
  have c₁ := c.keep k₁
  refine ⟨c₁.wd, ?_⟩
  obtain ⟨v, v', rfl, iv, iv'⟩ := i₁.two
  simp only [Is] at iv iv'
  obtain ⟨l1, xs, rfl, n1, hl1, hx⟩ := iv
  obtain ⟨l2, ys, rfl, n2, hl2, hy⟩ := iv'
  have lt1 : l1 < s₁.heap.objs.size := by obtain ⟨_, h⟩ := hl1; exact Heap.lt_size h
  have lt2 : l2 < s₁.heap.objs.size := by obtain ⟨_, h⟩ := hl2; exact Heap.lt_size h
  refine call_zip_2 hl1.isList hl2.isList fun h' hz hTI hTO h1 h2 hsz' kk => ?_
  obtain ⟨N, hN⟩ : ∃ N : Nat, N = s₁.heap.objs.size := ⟨_, rfl⟩
  rw [← hN] at hz hTI hTO h1 h2 hsz' lt1 lt2
  rw [← hN]
  have hnone : ∀ a : Nat, N ≤ a → s₁.heap.get? a = Option.none := fun a ha => by
    cases q : s₁.heap.get? a with
    | none => rfl
    | some o => exact absurd (Heap.lt_size q) (by rw [← hN]; exact Nat.not_lt.mpr ha)
  have n1' : ∀ k : Nat, l1 ≠ N + k := fun k q => by have := lt1; rw [q] at this; exact absurd this (Nat.not_lt.mpr (Nat.le_add_right _ _))
  have n2' : ∀ k : Nat, l2 ≠ N + k := fun k q => by have := lt2; rw [q] at this; exact absurd this (Nat.not_lt.mpr (Nat.le_add_right _ _))
  have nk : ∀ i j : Nat, i ≠ j → N + i ≠ N + j := fun i j h q => h (Nat.add_left_cancel q)
  have D : ZipApart (N + 4) (N + 2) (N + 3) N (N + 1) l1 l2 := ⟨nk _ _ (by decide), nk _ _ (by decide), nk 0 _ (by decide), nk _ _ (by decide), nk _ _ (by decide), nk _ 0 (by decide), nk _ _ (by decide), nk _ 0 (by decide), nk _ _ (by decide), nk 0 _ (by decide),
    n1' _, n1' _, n1' 0, n1' _, n2' _, n2' _, n2' 0, n2' _⟩
  have nw : ∀ {b : Addr} {o : Obj}, s₁.heap.get? b = some o → b ∉ [N + 4, N + 3, N, N + 1] := fun {b o} ho hm => by
    have hb : N ≤ b := by
      simp only [List.mem_cons, List.not_mem_nil, or_false] at hm
      rcases hm with rfl | rfl | rfl | rfl
      · exact Nat.le_add_right _ _
      · exact Nat.le_add_right _ _
      · exact Nat.le_refl _
      · exact Nat.le_add_right _ _
    rw [hnone b hb] at ho; cases ho
  have out : ∀ b o, b ∉ X → s₁.heap.get? b = some o → h'.get? b = some o ∧ b ∉ [N + 4, N + 3, N, N + 1] ++ X := fun b o hb ho => ⟨kk b o ho, fun hm => (List.mem_append.mp hm).elim (nw ho) hb⟩
  have kp : Kp s₁ { s₁ with heap := h' } := Kp.mk' kk
  refine wpAny_items_nil ⟨(c₁.keep kp).wd, ?_⟩
  refine list_zip_call (X := X) (xs := xs) (ys := ys) (ds := ds) (es := ds') hh D hlen hsz ⟨.inl hz, hTI, ⟨_, _, hTO⟩, h1, h2⟩ (hl1.at fun o h => kk _ o h) (hl2.at fun o h => kk _ o h) ?_ (hx.ext out) (hy.ext out) ?_ fun s' acc' c' kw hS hacc => ?_
  · obtain ⟨_, q1⟩ := hl1
    obtain ⟨_, q2⟩ := hl2
    exact ⟨(out _ _ n1 q1).2, (out _ _ n2 q2).2⟩
  · intro a ha
    rcases List.mem_append.mp ha with ha | ha
    · simp only [List.mem_cons, List.not_mem_nil, or_false] at ha
      obtain ⟨o1, h1, _⟩ := h1
      obtain ⟨o2, h2, _⟩ := h2
      rcases ha with rfl | rfl | rfl | rfl
      · exact ⟨_, hz⟩
      · exact ⟨_, hTO⟩
      · exact ⟨_, h1⟩
      · exact ⟨_, h2⟩
    · obtain ⟨o, ho⟩ := c₁.xin a ha; exact ⟨o, kk a o ho⟩
  · have kw' : Kp s₁ s' := by
      refine ⟨?_, kw.tk⟩
      obtain ⟨h2, t2, e2⟩ := kw.same
      subst e2
      exact ⟨h2, t2, rfl, fun b o ho => kw.keep b o (nw ho) (kk b o ho)⟩
    refine ⟨k₁.trans kw', ?_⟩
    simp only [Is]
    have hnX : h'.objs.size ∉ X := fun hm => by
      obtain ⟨o, ho⟩ := c₁.xin _ hm
      have := Heap.lt_size ho
      rw [hsz', ← hN] at this
      exact absurd this (Nat.not_lt.mpr (Nat.le_add_right _ _))
    exact ⟨_, acc'.toList, rfl, hnX, ⟨c', by simpa using hS⟩, hacc.less fun a ha => List.mem_cons_of_mem _ (List.mem_append_right _ ha)⟩
end
end Mine

namespace Mine
open PySem PySem.W PyProof.Rows PySem.SeqAt

section
variable {w : World} {A : Around} {s₀ : Shared} {Mu : List Addr} {e : Env} {X : List Addr} {Ow : Owns} {Γ : List (Str × Dt)} {s : Shared}

theorem wpTk {α : Type} {t : Sem α} {R Q : α → Shared → Prop} {E : Value → Shared → Prop} (h : wpAny (model pw w) A t R Bot s) (hq : ∀ v s', s.toks ≤ s'.toks → R v s' → Q v s') : wpAny (model pw w) A t Q E s :=
  wpAny_mono (wpAny_toks h) (fun v s' x => hq v s' x.1 x.2) fun _ _ x => x.2.elim

/-! ## more iterators -/
noncomputable def rangeDt (a : Int) (n : Nat) : List Dt := (List.range n).map fun k : Nat => .int (a + (k : Int))
theorem rangeDt_get {a : Int} {n i : Nat} {d : Dt} (h : (rangeDt a n)[i]? = some d) : i < n ∧ d = .int (a + i) := by
  simp only [rangeDt, List.getElem?_map, Option.map_eq_some_iff] at h
  obtain ⟨k, hk, rfl⟩ := h
  obtain ⟨hi, e⟩ := List.getElem?_eq_some_iff.mp hk
  simp only [List.length_range] at hi
  simp only [List.getElem_range] at e
  subst e
  exact ⟨hi, rfl⟩
theorem It.range {tg : Expr} {I : Addr} {a : Int} {n : Nat} (hh : A.handled = none) : It w A X I [I] [I] (rangeDt a n) tg (fun i h => IsRangeIter h I (a + i) ((n : Int) - i) 1) (fun i _ h => IsRangeIter h I (a + (i + 1 : Nat)) ((n : Int) - (i + 1 : Nat)) 1) where
  frame := fun i h h' st k => k I _ (.inr (by simp)) st
  live := fun i h st b hb => by rw [List.mem_singleton.mp hb]; exact ⟨_, st⟩
  kinds := fun i h st b hb o ho => by
    rw [List.mem_singleton.mp hb, st] at ho; cases ho
    exact ⟨fun _ _ q => (nomatch q), fun _ q => (nomatch q)⟩
  sub := fun b hb => hb
  item := fun i d s hd st _ => by
    obtain ⟨hi, rfl⟩ := rangeDt_get hd
    refine wpAny_pyNext_range_item st (by omega) fun h' st' hs' => ⟨_, rfl, by simp only [Is]; exact ⟨_, rfl⟩, ?_, Nat.le_succ _, ⟨h', _, rfl⟩, fun b o hb ho => SameBut.back hs' (by simpa using hb) ho⟩
    have e1 : a + (i : Int) + 1 = a + ((i + 1 : Nat) : Int) := by omega
    have e2 : (n : Int) - i - 1 = (n : Int) - ((i + 1 : Nat) : Int) := by omega
    rw [e1, e2] at st'
    exact st'
  done := fun s st => by
    have hl : (rangeDt a n).length = n := by simp [rangeDt]
    rw [hl] at st
    exact wpAny_pyNext_range_end hh st (by omega) fun h' he => ⟨rfl, Nat.le_refl _, ⟨h', _, rfl⟩, fun b o hb ho => he b o (by simpa using hb) ho⟩
  self := fun i s st => by
    have hT : s.TypeIs (.ref I) "range_iterator" := ⟨_, st, rfl⟩
    refine wpAny_pyIter_slot hT F.slot_range_iterator_iter (wpAny_call_entry F.slot_range_iterator_iter hT F.entry_range_iterator_iter ?_ (F.args_range_iterator_iter_1 _))
    show wpAny _ _ (ret (.ref I)) _ _ s
    exact wpAny_pure ⟨_, rfl, "range_iterator", _, hT, F.slot_range_iterator_next.lookup, rfl, rfl⟩
  go := fun i s v st => go_plain st rfl (by decide) ⟨Kw.refl s, st⟩
theorem iter_one {tg : Expr} {src : List Dt} {s s₁ : Shared} {o : Obj} {St : Nat → Heap → Prop} {Mid : Nat → Value → Heap → Prop} (k : Kp s s₁)
    (hI : ∀ Y : List Addr, It w A (Y ++ X) s₁.heap.objs.size [s₁.heap.objs.size] [s₁.heap.objs.size] src tg St Mid) (st : St 0 (s₁.heap.push o)) :
    Made w A X tg src false s (.ref s₁.heap.objs.size) { s₁ with heap := s₁.heap.push o } :=
  ⟨k.trans (Kp.push _ _), _, _, _, rfl, fun b hb => by rw [List.mem_singleton.mp hb]; exact none_back k (size_none _), fun _ => rfl, fun Y _ => ⟨St, Mid, hI Y, st⟩⟩
theorem size_of_range {a b : Int} (h : a ≤ b) : Builtin.Range.rangeSize a b 1 = ((b - a).toNat : Int) := by
  unfold Builtin.Range.rangeSize
  rw [if_pos (by decide)]
  split <;> omega
theorem small_range {a b : Int} (h : a ≤ b) (h0 : 0 ≤ a) (h1 : b < 2 ^ 62) : Builtin.Range.small a b 1 = true := by
  unfold Builtin.Range.small
  rw [size_of_range h]
  simp only [Builtin.Range.rangeFitsLong, Bool.and_eq_true, Bool.or_eq_true, decide_eq_true_eq]
  refine ⟨⟨⟨⟨?_, ?_⟩, ?_⟩, ?_⟩, .inr ?_⟩
  all_goals first | omega | (rw [if_pos (by decide)]; simp only [decide_eq_true_eq, Bool.and_eq_true]; omega)
theorem range_first (h : Heap) (a : Int) (n : Nat) : IsRangeIter (h.push { cls := .type "range_iterator", data := .fields #[rawInt a, rawInt (n : Int), rawInt 1] }) h.objs.size (a + ((0 : Nat) : Int)) ((n : Int) - ((0 : Nat) : Int)) 1 := by
  have e1 : a + ((0 : Nat) : Int) = a := by omega
  have e2 : (n : Int) - ((0 : Nat) : Int) = n := by omega
  rw [e1, e2]
  exact get_push _ _
theorem EvIt.range2 {tg : Expr} {p pos : Pos} {es : List Expr} {a b : Int} (gv : GEnv e) (hh : A.handled = none) (hk : e.kindOf "range" = some .globalImplicit) (hv : GlobV w.params "range" (.type "range"))
    (ha : EvAll w A e X Ow Γ pos es [.int a, .int b]) (h : a ≤ b) (h0 : 0 ≤ a) (h1 : b < 2 ^ 62)
    (hst : ∃ x r, backTo pos (starEach es e) = (false, x) :: r := by exact ⟨_, _, rfl⟩) (hpl : (backTo pos (starEach es e)).any (·.1) = false := by rfl) :
    EvIt w A e X Ow Γ tg (.Call (.Name "range" p) es [] pos) false (rangeDt a (b - a).toNat) := .mk fun s c => by
  obtain ⟨x, r, hst⟩ := hst
  refine wpAny_Call_NameR (hv.load gv hk c.wd ?_ rfl)
  refine callWith_fv (.ty _) c.wd hst hpl (wpb (ha.h s c) fun vs s₁ ⟨k₁, i₁⟩ => ?_)
  refine ⟨(c.keep k₁).wd, ?_⟩
  obtain ⟨v, v', rfl, iv, iv'⟩ := i₁.two
  simp only [Is] at iv iv'
  obtain ⟨t, rfl⟩ := iv
  obtain ⟨u, rfl⟩ := iv'
  refine call_range_2 ?_
  have kp : Kp s₁ { s₁ with heap := s₁.heap.push { cls := .type "range", data := .fields #[.int a t, .int b u, .int 1 s₁.toks] }, toks := s₁.toks + 1 } := Kp.mk' (fun b o h => Heap.get?_push_of_some _ h) (Nat.le_succ _)
  refine wpAny_pyIter_range (s := { s₁ with heap := s₁.heap.push { cls := .type "range", data := .fields #[.int a t, .int b u, .int 1 s₁.toks] }, toks := s₁.toks + 1 }) (IsRange.new _ _ _ _ _ _ _) (small_range h h0 h1) ?_
  rw [size_of_range h]
  exact iter_one (k₁.trans kp) (fun Y => It.range hh) (range_first _ _ _)
theorem EvIt.range1 {tg : Expr} {p pos : Pos} {es : List Expr} {b : Int} (gv : GEnv e) (hh : A.handled = none) (hk : e.kindOf "range" = some .globalImplicit) (hv : GlobV w.params "range" (.type "range"))
    (ha : EvAll w A e X Ow Γ pos es [.int b]) (h : 0 ≤ b) (h1 : b < 2 ^ 62)
    (hst : ∃ x r, backTo pos (starEach es e) = (false, x) :: r := by exact ⟨_, _, rfl⟩) (hpl : (backTo pos (starEach es e)).any (·.1) = false := by rfl) :
    EvIt w A e X Ow Γ tg (.Call (.Name "range" p) es [] pos) false (rangeDt 0 b.toNat) := .mk fun s c => by
  obtain ⟨x, r, hst⟩ := hst
  refine wpAny_Call_NameR (hv.load gv hk c.wd ?_ rfl)
  refine callWith_fv (.ty _) c.wd hst hpl (wpb (ha.h s c) fun vs s₁ ⟨k₁, i₁⟩ => ?_)
  refine ⟨(c.keep k₁).wd, ?_⟩
  obtain ⟨v, rfl, iv⟩ := i₁.one
  simp only [Is] at iv
  obtain ⟨t, rfl⟩ := iv
  refine call_range_1 ?_
  have kp : Kp s₁ { s₁ with heap := s₁.heap.push { cls := .type "range", data := .fields #[.int 0 s₁.toks, .int b t, .int 1 (s₁.toks + 1)] }, toks := s₁.toks + 1 + 1 } := Kp.mk' (fun b o h => Heap.get?_push_of_some _ h) (by omega)
  refine wpAny_pyIter_range (s := { s₁ with heap := s₁.heap.push { cls := .type "range", data := .fields #[.int 0 s₁.toks, .int b t, .int 1 (s₁.toks + 1)] }, toks := s₁.toks + 1 + 1 }) (IsRange.new _ _ _ _ _ _ _) (small_range h (by omega) h1) ?_
  rw [size_of_range h, show b - 0 = b by omega]
  exact iter_one (k₁.trans kp) (fun Y => It.range hh) (range_first _ _ _)

/-! strings, sign by sign -/
noncomputable def signsDt (x : Str) : List Dt := x.cps.toList.map fun c => .str ⟨#[c]⟩
theorem It.str {tg : Expr} {I : Addr} {x : Str} {t : Tok} {T : String} (hh : A.handled = none) (hT : T = "str_ascii_iterator" ∨ T = "str_iterator") : It w A X I [I] [I] (signsDt x) tg (fun i h => h.IsStrIter I T x t i) (fun i _ h => h.IsStrIter I T x t (i + 1)) where
  frame := fun i h h' st k => by
    obtain ⟨o, ho, r⟩ := st
    exact ⟨o, k I _ (.inr (by simp)) ho, r⟩
  live := fun i h st b hb => by rw [List.mem_singleton.mp hb]; obtain ⟨o, ho, r⟩ := st; exact ⟨_, ho⟩
  kinds := fun i h st b hb o ho => by
    obtain ⟨o', ho', hc, hd⟩ := st
    rw [List.mem_singleton.mp hb, ho'] at ho; cases ho
    rw [hd]
    exact ⟨fun _ _ q => (nomatch q), fun _ q => (nomatch q)⟩
  sub := fun b hb => hb
  item := fun i d s hd st _ => by
    simp only [signsDt, List.getElem?_map, Option.map_eq_some_iff, Array.getElem?_toList] at hd
    obtain ⟨c, hc, rfl⟩ := hd
    rcases hT with rfl | rfl
    · refine wpAny_pyNext_ascii_item st hc fun h' st' hs' => ⟨_, rfl, by simp only [Is]; exact ⟨_, rfl⟩, st', Nat.le_succ _, ⟨h', _, rfl⟩, fun b o hb ho => SameBut.back hs' (by simpa using hb) ho⟩
    · refine wpAny_pyNext_wide_item st hc fun h' st' hs' => ⟨_, rfl, by simp only [Is]; exact ⟨_, rfl⟩, st', Nat.le_succ _, ⟨h', _, rfl⟩, fun b o hb ho => SameBut.back hs' (by simpa using hb) ho⟩
  done := fun s st => by
    have hl : (signsDt x).length = x.cps.size := by simp [signsDt]
    rw [hl] at st
    have hx : x.cps[x.cps.size]? = none := by simp
    rcases hT with rfl | rfl
    · exact wpAny_pyNext_ascii_end hh st hx fun h' he => ⟨rfl, Nat.le_refl _, ⟨h', _, rfl⟩, fun b o hb ho => he b o (by simpa using hb) ho⟩
    · exact wpAny_pyNext_wide_end hh st hx fun h' he => ⟨rfl, Nat.le_refl _, ⟨h', _, rfl⟩, fun b o hb ho => he b o (by simpa using hb) ho⟩
  self := fun i s st => by
    rcases hT with rfl | rfl
    · exact (Walks.strAscii (prog := pw) (w := w) hh I x t).self i s _ _ st ⟨rfl, rfl⟩
    · exact (Walks.strWide (prog := pw) (w := w) hh I x t).self i s _ _ st ⟨rfl, rfl⟩
  go := fun i s v st => by
    obtain ⟨o, ho, hc, hd⟩ := id st
    refine go_plain ho hc ?_ ⟨Kw.refl s, st⟩
    rcases hT with rfl | rfl <;> decide
theorem EvIt.str {tg ex : Expr} {x : Str} (hh : A.handled = none) (h : Ev w A e X Ow Γ ex (.str x)) : EvIt w A e X Ow Γ tg ex false (signsDt x) := .mk fun s c =>
  h.use c fun v s₁ k₁ c₁ i₁ => by
    simp only [Is] at i₁
    obtain ⟨t, rfl⟩ := i₁
    have hT : strIterType x = "str_ascii_iterator" ∨ strIterType x = "str_iterator" := by
      unfold strIterType; split
      · exact .inl rfl
      · exact .inr rfl
    exact wpAny_pyIter_strU (iter_one k₁ (fun Y => It.str hh hT) ⟨_, get_push _ _, rfl, rfl⟩)

/-! enumerate over a list -/
noncomputable def enumDt (ds : List Dt) : List Dt := ds.zipIdx.map fun p => .tup [.int p.2, p.1]
theorem It.enum {I it ax : Addr} {elts : List Expr} {k : Nat} {p : Pos} {ds : List Dt} {vs : List Value} (hh : A.handled = none) (hne : I ≠ it) (h1 : ax ≠ I) (h2 : ax ≠ it) (hX : ax ∉ X) :
    It w A X I [I, it] [I, it] (enumDt ds) (.Tuple elts k p)
      (fun i h => (∃ old, IsEnum h I it i old) ∧ h.IsListIter it ax i ∧ h.PlainList ax vs.toArray ∧ IsAll h ([I, it] ++ X) ds vs)
      (fun i v h => ∃ T x, v = .ref T ∧ IsEnumOut h I it ((i : Int) + 1) x T ∧ h.IsListIter it ax (i + 1) ∧ h.PlainList ax vs.toArray ∧ IsAll h ([I, it] ++ X) ds vs) where
  frame := fun i h h' ⟨⟨old, a⟩, b, c, d⟩ k =>
    ⟨⟨old, k I _ (.inr (by simp)) a⟩, b.at fun o ho => k _ o (.inr (by simp)) ho, c.at fun o ho => k _ o (.inl (by simp [h1, h2, hX])) ho, d.ext fun b o hb ho => ⟨k b o (.inl hb) ho, hb⟩⟩
  live := fun i h ⟨⟨old, a⟩, ⟨o, b, _⟩, _⟩ c hc => by
    simp only [List.mem_cons, List.not_mem_nil, or_false] at hc
    rcases hc with rfl | rfl
    · exact ⟨_, a⟩
    · exact ⟨_, b⟩
  kinds := fun i h ⟨⟨old, a⟩, ⟨o, b, hc', hd⟩, _⟩ c hc o' ho' => by
    simp only [List.mem_cons, List.not_mem_nil, or_false] at hc
    rcases hc with rfl | rfl
    · rw [a] at ho'; cases ho'; exact ⟨fun _ _ q => (nomatch q), fun _ q => (nomatch q)⟩
    · rw [b] at ho'; cases ho'; rw [hd]; exact ⟨fun _ _ q => (nomatch q), fun _ q => (nomatch q)⟩
  sub := fun b hb => hb
  item := fun i d s hd ⟨⟨old, a⟩, b, c, dd⟩ xin => by
    simp only [enumDt, List.getElem?_map, Option.map_eq_some_iff] at hd
    obtain ⟨⟨d', i'⟩, hz, rfl⟩ := hd
    rw [List.getElem?_zipIdx, Option.map_eq_some_iff] at hz
    obtain ⟨d'', hd', e⟩ := hz
    simp only [Prod.mk.injEq] at e
    obtain ⟨rfl, rfl⟩ := e
    rw [Nat.zero_add]
    obtain ⟨v, hv, hi⟩ := dd.nth hd'
    have hlt : i < vs.toArray.size := by
      have := List.getElem?_eq_some_iff.mp hv; obtain ⟨h, _⟩ := this; simpa using h
    refine wpAny_with_toks (Nat.le_refl s.toks) (wpAny_pyNext_enum_itemD (Draws.list (prog := pw) (w := w) (A := A.in1) hh it ax h2 vs.toArray) a ⟨b, c.isList⟩ hlt hne (by simp [hne, Ne.symm h1]) fun x h' tk hP ho hs' hT hsz hk htk => ?_)
    have hvx : x = v := by
      have h1 : vs.toArray[i]? = some x := hP
      rw [List.getElem?_toArray, hv] at h1
      exact (Option.some.inj h1).symm
    subst hvx
    have kp : ∀ b o, b ∉ [I, it] → s.heap.get? b = some o → h'.get? b = some o := fun b o hb ho => by
      simp only [List.mem_cons, List.not_mem_nil, or_false, not_or] at hb
      exact hk b o hb.1 hb.2 ho
    have out : ∀ b o, b ∉ [I, it] ++ X → s.heap.get? b = some o → h'.get? b = some o ∧ b ∉ [I, it] ++ X := fun b o hb ho => ⟨kp b o (fun hm => hb (List.mem_append_left _ hm)) ho, hb⟩
    refine ⟨_, rfl, ?_, ⟨_, x, rfl, ho, hs'.1, c.at fun o ho => kp _ o (by simp [h1, h2]) ho, dd.ext out⟩, htk, ⟨h', _, rfl⟩, kp⟩
    simp only [Is, IsAll]
    exact ⟨_, [.int i tk, x], rfl, xin.new, ⟨_, hT, rfl, _, rfl⟩, _, _, rfl, ⟨tk, rfl⟩, _, _, rfl, hi.ext out, rfl⟩
  done := fun s ⟨⟨old, a⟩, b, c, dd⟩ => by
    have hl : (enumDt ds).length = vs.toArray.size := by simp [enumDt, dd.length]
    rw [hl] at b a
    exact wpAny_pyNext_enum_endD (Draws.list (prog := pw) (w := w) (A := A.in1) hh it ax h2 vs.toArray) a ⟨b, c.isList⟩ fun h' he => ⟨rfl, Nat.le_refl _, ⟨h', _, rfl⟩, fun b o hb ho => he b o (by simp at hb; exact hb.2) ho⟩
  self := fun i s ⟨⟨old, a⟩, _⟩ => wpAny_pyIter_enum a ⟨rfl, rfl⟩
  go := fun i s v ⟨T, x, hv, ho, b, c, dd⟩ => by
    subst hv
    refine wpAny_letOwnedTupleGo_enum ho fun h' he' hs' => ?_
    have kp : ∀ b o, b ≠ I → s.heap.get? b = some o → h'.get? b = some o := fun b o hb ho => SameBut.back hs' hb ho
    exact ⟨⟨Nat.le_refl _, ⟨h', _, rfl⟩, fun b o hb ho => kp b o (by simp at hb; exact hb.1) ho⟩, ⟨x, by simpa using he'⟩, b.at fun o ho => kp _ o (Ne.symm hne) ho, c.at fun o ho => kp _ o h1 ho,
      dd.ext fun b o hb ho => ⟨kp b o (by simp at hb; exact hb.1) ho, hb⟩⟩
theorem EvIt.enum {elts : List Expr} {k : Nat} {tp p pos : Pos} {es : List Expr} {ds : List Dt} (gv : GEnv e) (hh : A.handled = none) (hk : e.kindOf "enumerate" = some .globalImplicit) (hv : GlobV w.params "enumerate" (.type "enumerate"))
    (ha : EvAll w A e X Ow Γ pos es [.lst ds])
    (hst : ∃ x r, backTo pos (starEach es e) = (false, x) :: r := by exact ⟨_, _, rfl⟩) (hpl : (backTo pos (starEach es e)).any (·.1) = false := by rfl) :
    EvIt w A e X Ow Γ (.Tuple elts k tp) (.Call (.Name "enumerate" p) es [] pos) false (enumDt ds) := .mk fun s c => by
  obtain ⟨x, r, hst⟩ := hst
  refine wpAny_Call_NameR (hv.load gv hk c.wd ?_ rfl)
  refine callWith_fv (.ty _) c.wd hst hpl (wpb (ha.h s c) fun vs s₁ ⟨k₁, i₁⟩ => ?_)
  have c₁ := c.keep k₁
  refine ⟨c₁.wd, ?_⟩
  obtain ⟨v, rfl, iv⟩ := i₁.one
  simp only [Is] at iv
  obtain ⟨ax, vs, rfl, hax, hl, hi⟩ := iv
  have lt : ax < s₁.heap.objs.size := by obtain ⟨_, h⟩ := hl; exact Heap.lt_size h
  refine call_enumerate_list hl.isList fun h' he hit hsz kk => ?_
  obtain ⟨N, hN⟩ : ∃ N : Nat, N = s₁.heap.objs.size := ⟨_, rfl⟩
  rw [← hN] at he hit hsz lt
  rw [← hN]
  have kp : Kp s₁ { s₁ with heap := h' } := Kp.mk' kk
  have hnone : ∀ a : Nat, N ≤ a → s₁.heap.get? a = Option.none := fun a ha => by
    cases q : s₁.heap.get? a with
    | none => rfl
    | some o => exact absurd (Heap.lt_size q) (by rw [← hN]; exact Nat.not_lt.mpr ha)
  have nn : ∀ b ∈ [N + 1, N], s₁.heap.get? b = Option.none := fun b hb => by
    simp only [List.mem_cons, List.not_mem_nil, or_false] at hb
    rcases hb with rfl | rfl
    · exact hnone _ (Nat.le_add_right _ _)
    · exact hnone _ (Nat.le_refl _)
  have n1 : ax ≠ N + 1 := fun q => by have := lt; rw [q] at this; exact absurd this (Nat.not_lt.mpr (Nat.le_add_right _ _))
  have n2 : ax ≠ N := fun q => by have := lt; rw [q] at this; exact absurd this (Nat.lt_irrefl _)
  have n3 : N + 1 ≠ N := Nat.succ_ne_self N
  refine wpAny_pyIter_enum he ⟨k₁.trans kp, N + 1, [N + 1, N], [N + 1, N], rfl, fun b hb => none_back k₁ (nn b hb), fun _ => rfl, fun Y hY => ⟨_, _, It.enum hh n3 n1 n2 ?_, ⟨_, he⟩, hit, hl.at fun o h => kk _ o h, ?_⟩⟩
  · intro hm
    rcases List.mem_append.mp hm with hm | hm
    · obtain ⟨n, h⟩ := hl
      have := hY _ hm
      rw [kk _ _ h] at this; cases this
    · exact hax hm
  · refine hi.ext fun b o hb ho => ⟨kk b o ho, fun hm => ?_⟩
    rcases List.mem_append.mp hm with hm | hm
    · exact not_old (nn b hm) ho
    · rcases List.mem_append.mp hm with hm | hm
      · have := hY _ hm
        rw [kk _ _ ho] at this; cases this
      · exact hb hm
end
end Mine

namespace Mine
open PySem PySem.W PyProof.Rows PySem.SeqAt

theorem argBest_min (val : Nat → Int) : ∀ k, argBest (fun i j => decide (val i < val j)) k ≤ k ∧ ∀ i ≤ k, val (argBest (fun i j => decide (val i < val j)) k) ≤ val i
  | 0 => ⟨Nat.le_refl _, fun i hi => by rw [Nat.le_zero.mp hi]; exact Int.le_refl _⟩
  | k + 1 => by
    obtain ⟨h1, h2⟩ := argBest_min val k
    simp only [argBest]
    by_cases h : val (k + 1) < val (argBest (fun i j => decide (val i < val j)) k)
    · rw [if_pos (decide_eq_true h)]
      refine ⟨Nat.le_refl _, fun i hi => ?_⟩
      rcases Nat.lt_or_ge k i with q | q
      · have : i = k + 1 := by omega
        rw [this]; exact Int.le_refl _
      · exact Int.le_trans (Int.le_of_lt h) (h2 i q)
    · rw [if_neg (by simpa using h)]
      refine ⟨Nat.le_succ_of_le h1, fun i hi => ?_⟩
      rcases Nat.lt_or_ge k i with q | q
      · have : i = k + 1 := by omega
        rw [this]; omega
      · exact h2 i q

section
variable {w : World} {A : Around} {s₀ : Shared} {Mu : List Addr} {e : Env} {X : List Addr} {Ow : Owns} {Γ : List (Str × Dt)} {s : Shared}

theorem ints_at {h : Heap} {ns : List Int} {vs : List Value} (i : IsAll h X (ns.map .int) vs) {j : Nat} {v : Value} (hv : vs.toArray[j]? = some v) : ∃ t, v = .int (ns.getD j 0) t := by
  rw [List.getElem?_toArray] at hv
  obtain ⟨d, hd, id⟩ := i.nth' hv
  rw [List.getElem?_map, Option.map_eq_some_iff] at hd
  obtain ⟨n, hn, rfl⟩ := hd
  simp only [Is] at id
  obtain ⟨t, rfl⟩ := id
  exact ⟨t, by rw [List.getD_eq_getElem?_getD, hn]; rfl⟩
theorem min_of {ns : List Int} {vs : List Value} {v : Value} {r : Int} {h : Heap} (i : IsAll h X (ns.map .int) vs) (h0 : 0 < ns.length) (hm : r ∈ ns) (hl : ∀ x ∈ ns, r ≤ x) {bt : Nat → Nat → Bool} (hbt : bt = fun i j => decide (ns.getD i 0 < ns.getD j 0))
    (hv : vs.toArray[argBest bt (vs.length - 1)]? = some v) : ∃ t, v = .int r t := by
  obtain ⟨t, e⟩ := ints_at i hv
  have hlen : vs.length = ns.length := by rw [i.length, List.length_map]
  subst hbt
  obtain ⟨h1, h2⟩ := argBest_min (fun i => ns.getD i 0) (vs.length - 1)
  refine ⟨t, ?_⟩
  rw [e]
  congr 1
  have a1 : argBest (fun i j => decide (ns.getD i 0 < ns.getD j 0)) (vs.length - 1) < ns.length := by omega
  have a2 : ns.getD (argBest (fun i j => decide (ns.getD i 0 < ns.getD j 0)) (vs.length - 1)) 0 ∈ ns := by
    rw [List.getD_eq_getElem?_getD, List.getElem?_eq_getElem a1]; exact List.getElem_mem a1
  obtain ⟨j, hj, hjr⟩ := List.getElem_of_mem hm
  have a3 := h2 j (by omega)
  have a4 : ns.getD j 0 = r := by rw [List.getD_eq_getElem?_getD, List.getElem?_eq_getElem hj]; exact hjr
  simp only [a4] at a3
  exact Int.le_antisymm a3 (hl _ a2)
theorem OpC.minL {ns : List Int} {r : Int} (hh : A.handled = Option.none) (hm : r ∈ ns) (hl : ∀ x ∈ ns, r ≤ x) : OpC w A X (.builtin "min") [.lst (ns.map .int)] (.int r) := .mk fun s vs _ _ _ i₁ => by
  obtain ⟨v, rfl, iv⟩ := i₁.one
  simp only [Is] at iv
  obtain ⟨a, vs, rfl, _, hls, hi⟩ := iv
  have h0 : 0 < ns.length := List.length_pos_of_mem hm
  have hlen : vs.length = ns.length := by rw [hi.length, List.length_map]
  refine wpKp (call_min_walk (wpAny_pyIter_list hls.isList ⟨s.heap.objs.size, [s.heap.objs.size, a], [s.heap.objs.size], vs.toArray.size, _, _, _, rfl, Walks.list (prog := pw) (w := w) (A := A.in1) hh _ a ?_ vs.toArray, ⟨?_, hls.isList.push _⟩, ?_, ?_, CmpOf.ints_lt (fun i => ns.getD i 0) (fun i v hv => ints_at hi hv), fun v h' tk hv hk => ⟨⟨h', tk, rfl, fun b o ho => hk b o (by simp; exact Nat.ne_of_lt (Heap.lt_size ho)) (Heap.get?_push_of_some _ ho)⟩, ?_⟩⟩))
  · obtain ⟨_, h⟩ := hls; exact Nat.ne_of_lt (Heap.lt_size h)
  · exact ⟨_, get_push _ _, rfl, rfl⟩
  · intro b hb
    obtain ⟨_, h⟩ := hls
    have := Heap.lt_size h
    simp only [List.mem_cons, List.not_mem_nil, or_false] at hb
    rw [Heap.size_push]
    rcases hb with rfl | rfl
    · exact Nat.lt_succ_self _
    · exact Nat.lt_succ_of_lt this
  · simp [hlen, h0]
  · simp only [Is]
    exact min_of hi h0 hm hl rfl (by simpa using hv)
theorem OpC.minT {ns : List Int} {r : Int} (hh : A.handled = Option.none) (hm : r ∈ ns) (hl : ∀ x ∈ ns, r ≤ x) : OpC w A X (.builtin "min") [.tup (ns.map .int)] (.int r) := .mk fun s vs _ _ _ i₁ => by
  obtain ⟨v, rfl, iv⟩ := i₁.one
  simp only [Is] at iv
  obtain ⟨a, vs, rfl, _, hls, hi⟩ := iv
  have h0 : 0 < ns.length := List.length_pos_of_mem hm
  have hlen : vs.length = ns.length := by rw [hi.length, List.length_map]
  refine wpKp (call_min_walk (wpAny_pyIter_tuple hls ⟨s.heap.objs.size, [s.heap.objs.size, a], [s.heap.objs.size], vs.toArray.size, _, _, _, rfl, Walks.tuple (prog := pw) (w := w) (A := A.in1) hh _ a ?_ vs.toArray, ⟨?_, ?_⟩, ?_, ?_, CmpOf.ints_lt (fun i => ns.getD i 0) (fun i v hv => ints_at hi hv), fun v h' tk hv hk => ⟨⟨h', tk, rfl, fun b o ho => hk b o (by simp; exact Nat.ne_of_lt (Heap.lt_size ho)) (Heap.get?_push_of_some _ ho)⟩, ?_⟩⟩))
  · obtain ⟨_, h, _⟩ := hls; exact Nat.ne_of_lt (Heap.lt_size h)
  · exact ⟨_, get_push _ _, rfl, rfl⟩
  · obtain ⟨o, h, r⟩ := hls; exact ⟨o, Heap.get?_push_of_some _ h, r⟩
  · intro b hb
    obtain ⟨_, h, _⟩ := hls
    have := Heap.lt_size h
    simp only [List.mem_cons, List.not_mem_nil, or_false] at hb
    rw [Heap.size_push]
    rcases hb with rfl | rfl
    · exact Nat.lt_succ_self _
    · exact Nat.lt_succ_of_lt this
  · simp [hlen, h0]
  · simp only [Is]
    exact min_of hi h0 hm hl rfl (by simpa using hv)
theorem OpC.max2 {i j : Int} (hh : A.handled = Option.none) : OpC w A X (.builtin "max") [.int i, .int j] (.int (if j > i then j else i)) := .mk fun s vs _ _ _ i₁ => by
  obtain ⟨v, v', rfl, iv, iv'⟩ := i₁.two
  simp only [Is] at iv iv'
  obtain ⟨t, rfl⟩ := iv
  obtain ⟨t', rfl⟩ := iv'
  refine wpKp (max_two_ints hh fun h' tk hk => ⟨⟨h', tk, rfl, hk⟩, ?_⟩)
  simp only [Is]
  split <;> exact ⟨_, rfl⟩
theorem preSum_sum (ns : List Int) : ∀ k ≤ ns.length, preSum (fun i => ns.getD i 0) k = (ns.take k).sum
  | 0, _ => by simp [preSum]
  | k + 1, h => by
    rw [preSum, preSum_sum ns k (by omega)]
    have e : ns.take (k + 1) = ns.take k ++ [ns.getD k 0] := by
      rw [List.take_add_one, List.getElem?_eq_getElem (by omega), List.getD_eq_getElem?_getD, List.getElem?_eq_getElem (by omega)]; rfl
    rw [e, List.sum_append]
    simp
theorem OpC.sumL {ns : List Int} (hh : A.handled = Option.none) (hb : ∀ x ∈ ns, InLong x) (hs : ∀ k, InLong (ns.take k).sum) : OpC w A X (.builtin "sum") [.lst (ns.map .int)] (.int ns.sum) := .mk fun s vs _ _ _ i₁ => by
  obtain ⟨v, rfl, iv⟩ := i₁.one
  simp only [Is] at iv
  obtain ⟨a, vs, rfl, _, hls, hi⟩ := iv
  have hlen : vs.length = ns.length := by rw [hi.length, List.length_map]
  refine wpKp (call_sum_walk (wpAny_pyIter_list hls.isList ⟨s.heap.objs.size, [s.heap.objs.size, a], [s.heap.objs.size], vs.toArray.size, _, _, fun i => ns.getD i 0, rfl, Walks.list (prog := pw) (w := w) (A := A.in1) hh _ a ?_ vs.toArray, ⟨?_, hls.isList.push _⟩, ?_, fun i v hv => ints_at hi hv, fun j hj => ?_, fun h' tk t' hk => ⟨⟨h', tk, rfl, fun b o ho => hk b o (by simp; exact Nat.ne_of_lt (Heap.lt_size ho)) (Heap.get?_push_of_some _ ho)⟩, ?_⟩⟩))
  · obtain ⟨_, h⟩ := hls; exact Nat.ne_of_lt (Heap.lt_size h)
  · exact ⟨_, get_push _ _, rfl, rfl⟩
  · intro b hb
    obtain ⟨_, h⟩ := hls
    have := Heap.lt_size h
    simp only [List.mem_cons, List.not_mem_nil, or_false] at hb
    rw [Heap.size_push]
    rcases hb with rfl | rfl
    · exact Nat.lt_succ_self _
    · exact Nat.lt_succ_of_lt this
  · simp only [List.size_toArray, hlen] at hj
    refine ⟨?_, ?_⟩
    · refine hb _ ?_
      show ns.getD j 0 ∈ ns
      rw [List.getD_eq_getElem?_getD, List.getElem?_eq_getElem hj]; exact List.getElem_mem hj
    · rw [preSum_sum ns (j + 1) (by omega)]; exact hs _
  · simp only [Is, List.size_toArray, hlen]
    rw [preSum_sum ns _ (Nat.le_refl _), List.take_length]
    exact ⟨_, rfl⟩
theorem ints_are {h : Heap} : ∀ {ns : List Int} {vs : List Value}, IsAll h X (ns.map .int) vs → IntsAre vs ns
  | [], vs, i => by simp only [List.map_nil, IsAll] at i; subst i; exact .nil
  | n :: r, vs, i => by
    simp only [List.map_cons, IsAll, Is] at i
    obtain ⟨v, r', rfl, ⟨t, rfl⟩, hr⟩ := i
    exact .cons _ _ (ints_are hr)
theorem OpC.bytesL {ns : List Int} (hh : A.handled = Option.none) (hr : ∀ n ∈ ns, 0 ≤ n ∧ n < 256) (hz : ns.length ≤ sizeLine) : OpC w A X (.type "bytes") [.lst (ns.map .int)] (.bytes (byteArr ns)) := .mk fun s vs _ _ _ i₁ => by
  obtain ⟨v, rfl, iv⟩ := i₁.one
  simp only [Is] at iv
  obtain ⟨a, vs, rfl, _, hls, hi⟩ := iv
  have hlen : vs.length = ns.length := by rw [hi.length, List.length_map]
  have hia : IntsAre vs ns := ints_are hi
  refine wpKp (call_bytes_ints hls.isList hia hr (by omega) hh fun h' t k hk => ⟨⟨h', k, rfl, hk⟩, ?_⟩)
  simp only [Is]
  exact ⟨_, rfl⟩
end
end Mine

namespace Mine
open PySem PySem.W PyProof.Rows PySem.SeqAt

section
variable {w : World} {A : Around} {s₀ : Shared} {Mu : List Addr} {e : Env} {X : List Addr} {Ow : Owns} {Γ : List (Str × Dt)} {s : Shared}

/-! ## comparisons, minus -/
theorem Op2.le {i j : Int} : Op2 w A X (compareOp .LtE) (.int i) (.int j) (.bool (decide (i ≤ j))) := .mk fun s a b _ _ _ h₁ h₂ => by
  simp only [Is] at h₁ h₂; obtain ⟨t, rfl⟩ := h₁; obtain ⟨u, rfl⟩ := h₂
  exact PyProof.Rows.le_int ⟨Kp.refl _, by simp only [Is]⟩
theorem Op2.gt {i j : Int} : Op2 w A X (compareOp .Gt) (.int i) (.int j) (.bool (decide (j < i))) := .mk fun s a b _ _ _ h₁ h₂ => by
  simp only [Is] at h₁ h₂; obtain ⟨t, rfl⟩ := h₁; obtain ⟨u, rfl⟩ := h₂
  exact PyProof.Rows.gt_int ⟨Kp.refl _, by simp only [Is]⟩
theorem Op2.ge {i j : Int} : Op2 w A X (compareOp .GtE) (.int i) (.int j) (.bool (decide (j ≤ i))) := .mk fun s a b _ _ _ h₁ h₂ => by
  simp only [Is] at h₁ h₂; obtain ⟨t, rfl⟩ := h₁; obtain ⟨u, rfl⟩ := h₂
  exact PyProof.Rows.ge_int ⟨Kp.refl _, by simp only [Is]⟩
theorem Ev.neg {x : Expr} {p : Pos} {i : Int} (h : Ev w A e X Ow Γ x (.int i)) : Ev w A e X Ow Γ (.UnaryOp .USub x p) (.int (-i)) := .mk fun s c =>
  UnaryOp_ (h.use c fun v s₁ k₁ c₁ i₁ => by
    simp only [Is] at i₁; obtain ⟨t, rfl⟩ := i₁
    exact PyProof.Rows.neg_int ⟨k₁.trans (Kp.tok _ _), by simp only [Is]; exact ⟨_, rfl⟩⟩)
theorem Op2.inS {x y : Str} : Op2 w A X (compareOp .In) (.str y) (.str x) (.bool (!(Builtin.Str.occurrences x y 0 x.length 1).isEmpty)) := .mk fun s a b _ _ _ h₁ h₂ => by
  simp only [Is] at h₁ h₂; obtain ⟨t, rfl⟩ := h₁; obtain ⟨u, rfl⟩ := h₂
  exact PyProof.Rows.in_str ⟨Kp.refl _, by simp only [Is]⟩

/-! ## lists -/
theorem Op2.addL {ds es : List Dt} (hsz : ds.length + es.length ≤ sizeLine) : Op2 w A X (binaryOp .Add) (.lst ds) (.lst es) (.lst (ds ++ es)) := .mk fun s a b _ _ x h₁ h₂ => by
  simp only [Is] at h₁ h₂
  obtain ⟨a, vs, rfl, _, ⟨n, hl⟩, hi⟩ := h₁
  obtain ⟨b, us, rfl, _, ⟨n', hl'⟩, hi'⟩ := h₂
  refine P.add_list hl hl' ⟨Kp.push _ _, ?_⟩ (by simp [hi.length, hi'.length]; exact hsz)
  rw [List.append_toArray]
  exact Is.newLst x (hi.append hi')
theorem flat_rep {α : Type} (l : List α) : ∀ (k : Nat) (acc : Array α), List.foldl (fun a b => a ++ b) acc (List.replicate k l.toArray) = acc ++ (List.replicate k l).flatten.toArray
  | 0, acc => by simp
  | k + 1, acc => by
    rw [List.replicate_succ, List.foldl_cons, flat_rep l k, List.replicate_succ, List.flatten_cons, ← List.append_toArray, Array.append_assoc]
theorem IsAll.rep {h : Heap} {ds : List Dt} {vs : List Value} (i : IsAll h X ds vs) : ∀ k : Nat, IsAll h X (List.replicate k ds).flatten (List.replicate k vs).flatten
  | 0 => by simp [IsAll]
  | k + 1 => by
    rw [List.replicate_succ, List.replicate_succ, List.flatten_cons, List.flatten_cons]
    exact i.append (IsAll.rep i k)
theorem Op2.mulL {ds : List Dt} {k : Int} (hlo : -(2 ^ 63 : Int) ≤ k) (hhi : k < 2 ^ 63) (hsz : ds.length * k.toNat ≤ 2 ^ 24) : Op2 w A X (binaryOp .Mult) (.lst ds) (.int k) (.lst (List.replicate k.toNat ds).flatten) := .mk fun s a b _ _ x h₁ h₂ => by
  simp only [Is] at h₁ h₂
  obtain ⟨l, vs, rfl, _, ⟨n, hl⟩, hi⟩ := h₁
  obtain ⟨u, rfl⟩ := h₂
  have hlen := hi.length
  refine wpAny_binaryOp_repeat_ref (T := "list") (U := "int") (by decide) ⟨_, hl, rfl⟩ (fun s' => typeIs_int s' k u) noFill_list_mul F.fills_int_mul F.slot_int_rmul repeat_list F.slot_int_index.lookup
    (call_meets F.slot_int_rmul (typeIs_int s k u) F.entry_int_rmul (F.args_int_rmul_2 _ _) (int___rmul___int_list k u l vs.toArray n)
      ⟨hl, rfl, ⟨_, hl, rfl⟩, call_meets F.slot_list_mul ⟨_, hl, rfl⟩ F.entry_list_mul (F.args_list_mul_2 _ _)
        (AutoListH.list___mul___list_int_3 l vs.toArray n k u (by simp [Builtin.List.listFitsIndex]; omega) (by simp [hlen]; omega) (by simp [Builtin.List.listTooLong, sizeLine, hlen]; omega))
        ⟨hl, Kp.push _ _, ?_⟩⟩)
  have e1 : (List.foldl (fun x1 x2 => x1 ++ x2) #[] (List.replicate (if vs.toArray.isEmpty = true then 0 else k.toNat) vs.toArray)) = (List.replicate k.toNat vs).flatten.toArray := by
    rw [flat_rep]
    cases vs with
    | nil => simp
    | cons a r => simp
  rw [e1]
  exact Is.newLst x (hi.rep k.toNat)
theorem OpC.tuple {ds : List Dt} (hsz : ds.length ≤ sizeLine) : OpC w A X (.type "tuple") [.lst ds] (.tup ds) := .mk fun s vs _ _ x i₁ => by
  obtain ⟨v, rfl, iv⟩ := i₁.one
  simp only [Is] at iv
  obtain ⟨a, vs, rfl, _, hls, hi⟩ := iv
  refine call_tuple_list hls.isList (fun h' hk => ⟨(Kp.mk' (s := s) (t := s.toks) hk).trans (Kp.push { s with heap := h' } _), ?_⟩) (by simp [hi.length]; exact hsz)
  exact Is.newTup (s := { s with heap := h' }) (x.keep (Kp.mk' (t := s.toks) hk)) (hi.keep hk)
theorem OpC.lenT {ds : List Dt} (hn : ds.length < 2 ^ 62) : OpC w A X (.builtin "len") [.tup ds] (.int ds.length) := .mk fun s vs _ _ _ i₁ => by
  obtain ⟨v, rfl, iv⟩ := i₁.one
  simp only [Is] at iv; obtain ⟨a, vs, rfl, _, hl, hi⟩ := iv
  have l1 := hi.length
  refine PyProof.Rows.len_tuple hl (by simp; omega) ⟨Kp.tok _ _ (by omega), ?_⟩
  simp only [Is, List.size_toArray, l1]; exact ⟨_, rfl⟩
theorem IsAll.reverse {h : Heap} : ∀ {ds : List Dt} {vs : List Value}, IsAll h X ds vs → IsAll h X ds.reverse vs.reverse
  | [], vs, i => by simp only [IsAll] at i; subst i; simp [IsAll]
  | d :: ds, vs, i => by
    simp only [IsAll] at i
    obtain ⟨v, r, rfl, hv, hr⟩ := i
    rw [List.reverse_cons, List.reverse_cons]
    exact hr.reverse.append (by simp only [IsAll]; exact ⟨v, _, rfl, hv, rfl⟩)
/-- l[::-1] -/
theorem Ev.rev {value : Expr} {one : Expr} {p pos : Pos} {ds : List Dt} (hv : Ev w A e X Ow Γ value (.lst ds)) (h1 : Ev w A e X Ow Γ one (.int (-1))) (hsz : ds.length ≤ sizeLine) :
    Ev w A e X Ow Γ (.Subscript value (.Slice Option.none Option.none (some one) p) pos) (.lst ds.reverse) := .mk fun s c => by
  refine Subscript_ (hv.use c fun a s₁ k₁ c₁ i₁ => ?_)
  simp only [Is] at i₁
  obtain ⟨l, vs, rfl, _, hl, hi⟩ := i₁
  refine wpAny_Slice ?_
  rw [evalPart_none, evalPart_some]
  refine wpAny_pure (wpAny_pure (h1.use c₁ fun b s₂ k₂ c₂ i₂ => ?_))
  simp only [Is] at i₂
  obtain ⟨t, rfl⟩ := i₂
  obtain ⟨ops, hf⟩ := sub_form (.Slice Option.none Option.none (some one) p) (.ref l) (.ref s₂.heap.objs.size)
  have kp : Kp s₂ { s₂ with heap := s₂.heap.push { cls := .type "slice", data := .fields #[.none, .none, .int (-1) t] } } := Kp.push _ _
  have hl₂ := (hl.at fun o h => k₂.ext _ o h).at fun o h => kp.ext _ o h
  refine tail_any hl₂.isList.typeIs slot_list_getitem.lookup (wpAny_getItem_list_slice hl₂.isList (Heap.IsSliceOf.new ..) .none .none (.int (-1) t) (by decide) ⟨(k₁.trans k₂).trans (kp.trans (Kp.push _ _)), ?_⟩ (by simp [hi.length]; exact hsz)) hf
  rw [krv_pick]
  exact Is.newLst (s := { s₂ with heap := s₂.heap.push { cls := .type "slice", data := .fields #[.none, .none, .int (-1) t] } }) (vs := vs.reverse) (c₂.keep kp).xin ((hi.keep k₂.ext).keep kp.ext).reverse

/-! ## methods of str -/
theorem Ev.meth0 {o : Expr} {name : Str} {T id : String} {apos pos : Pos} {d₁ d : Dt} (hT : ∀ (s : Shared) v, Is s.heap X d₁ v → s.TypeIs v T ∧ ∀ a, v = .ref a → ∃ ob, s.heap.get? a = some ob ∧ ob.dict = Option.none) (pa : PlainAttrs T) (slot : Slot T name id) (hty : typeOf (.builtin id) = pure (.type "method_descriptor"))
    (ho : Ev w A e X Ow Γ o d₁) (op : OpC w A X (.builtin id) [d₁] d)
    (hbase : attributeBase o name e (eval o e) = eval o e := by rfl)
    (hfew : ((backTo pos (starEach [] e)).all (fun x => !x.1) && (backToKw pos (keywordEach [] e)).all (fun x => x.1.isSome)
      && decide (([] : List Expr).length + ([] : List Keyword).length + (if ([] : List Keyword).isEmpty then 0 else 1) < 30)) = true := by rfl)
    (hline : (apos.endLine == pos.line) = true := by rfl) : Ev w A e X Ow Γ (.Call (.Attribute o name apos) [] [] pos) d := .mk fun s c =>
  wpAny_Call_method hbase hfew hline pa slot hty (ho.use c fun v s₁ k₁ c₁ i₁ => ⟨(hT s₁ v i₁).1, (hT s₁ v i₁).2, Calls.callWith_builtin rfl (PySem.evalArgs_none (wpb (op.h s₁ [v] c₁.tk c₁.wd c₁.xin (by simp only [IsAll]; exact ⟨v, _, rfl, i₁, rfl⟩)) fun r s₂ ⟨k₂, i₂⟩ => ⟨k₁.trans k₂, i₂⟩))⟩)
theorem Ev.methN {o : Expr} {name : Str} {T id : String} {apos pos : Pos} {args : List Expr} {d₁ d : Dt} {ds : List Dt} (hT : ∀ (s : Shared) v, Is s.heap X d₁ v → s.TypeIs v T ∧ ∀ a, v = .ref a → ∃ ob, s.heap.get? a = some ob ∧ ob.dict = Option.none) (pa : PlainAttrs T) (slot : Slot T name id) (hty : typeOf (.builtin id) = pure (.type "method_descriptor"))
    (ho : Ev w A e X Ow Γ o d₁) (ha : EvAll w A e X Ow Γ pos args ds) (op : OpC w A X (.builtin id) (d₁ :: ds) d)
    (hst : ∃ x r, backTo pos (starEach args e) = (false, x) :: r := by exact ⟨_, _, rfl⟩) (hpl : (backTo pos (starEach args e)).any (·.1) = false := by rfl)
    (hbase : attributeBase o name e (eval o e) = eval o e := by rfl)
    (hfew : ((backTo pos (starEach args e)).all (fun x => !x.1) && (backToKw pos (keywordEach [] e)).all (fun x => x.1.isSome)
      && decide (args.length + ([] : List Keyword).length + (if ([] : List Keyword).isEmpty then 0 else 1) < 30)) = true := by rfl)
    (hline : (apos.endLine == pos.line) = true := by rfl) : Ev w A e X Ow Γ (.Call (.Attribute o name apos) args [] pos) d := .mk fun s c =>
  wpAny_Call_method hbase hfew hline pa slot hty (ho.use c fun v s₁ k₁ c₁ i₁ => ⟨(hT s₁ v i₁).1, (hT s₁ v i₁).2, by
    obtain ⟨x, r, hst⟩ := hst
    refine Calls.callWith_builtin hpl ?_
    have h := wpb (Q' := fun vs s' => wpAny (model pw w) A (PySem.call (.builtin id) ([v] ++ vs)) (fun v s' => Kp s s' ∧ Is s'.heap X d v) Bot s') (E := Bot) (ha.h s₁ c₁) fun vs s₂ ⟨k₂, i₂⟩ => by
      have c₂ := c₁.keep k₂
      exact wpb (op.h s₂ (v :: vs) c₂.tk c₂.wd c₂.xin (by simp only [IsAll]; exact ⟨v, vs, rfl, i₁.keep k₂.ext, i₂⟩)) fun r s₃ ⟨k₃, i₃⟩ => ⟨(k₁.trans k₂).trans k₃, i₃⟩
    rw [hst] at h ⊢
    exact Calls.evalArgs_plain h⟩)
theorem strT {x : Str} : ∀ (s : Shared) v, Is s.heap X (.str x) v → s.TypeIs v "str" ∧ ∀ a, v = .ref a → ∃ ob, s.heap.get? a = some ob ∧ ob.dict = Option.none := fun s v i => by
  simp only [Is] at i
  obtain ⟨t, rfl⟩ := i
  exact ⟨typeIs_str _ _ _, fun a q => (nomatch q)⟩
theorem OpC.index {x y : Str} {i : Nat} {r : List Nat} (ho : Builtin.Str.occurrences x y 0 x.length 1 = i :: r) : OpC w A X (.builtin "str.index") [.str x, .str y] (.int i) := .mk fun s vs _ _ _ i₁ => by
  obtain ⟨v, v', rfl, iv, iv'⟩ := i₁.two
  simp only [Is] at iv iv'; obtain ⟨t, rfl⟩ := iv; obtain ⟨t', rfl⟩ := iv'
  exact SC.index ho ⟨Kp.tok _ _, by simp only [Is]; exact ⟨_, rfl⟩⟩
theorem OpC.lower {x : Str} (hfit : Builtin.Str.tooLong (Txt.lower x).length = false) : OpC w A X (.builtin "str.lower") [.str x] (.str (Txt.lower x)) := .mk fun s vs _ _ _ i₁ => by
  obtain ⟨v, rfl, iv⟩ := i₁.one
  simp only [Is] at iv; obtain ⟨t, rfl⟩ := iv
  exact SC.lower hfit ⟨Kp.tok _ _, by simp only [Is]; exact ⟨_, rfl⟩⟩
end
end Mine

namespace Mine
open PySem PySem.W PyProof.Rows PySem.SeqAt

section
variable {w : World} {A : Around} {s₀ : Shared} {Mu : List Addr} {e : Env} {X : List Addr} {Ow : Owns} {Γ : List (Str × Dt)} {s : Shared}

theorem Ev.replace {o : Expr} {apos pos p₁ p₂ : Pos} {k₁ k₂ : Nat} {x y z : Str} (ho : Ev w A e X Ow Γ o (.str x)) (hyz : (y == z) = false) (hb : x.length + (x.length + 1) * z.length ≤ 16777216)
    (hbase : attributeBase o "replace" e (eval o e) = eval o e := by rfl)
    (hline : (apos.endLine == pos.line) = true := by rfl) :
    Ev w A e X Ow Γ (.Call (.Attribute o "replace" apos) [.Constant (.str y) k₁ p₁, .Constant (.str z) k₂ p₂] [] pos) (.str (Txt.replace x y z)) := .mk fun s c => by
  refine wpAny_Call_method hbase rfl hline F.plainAttrs_str F.slot_str_replace F.type_str_replace (ho.use c fun v s₁ kk c₁ i₁ => ⟨(strT s₁ v i₁).1, (strT s₁ v i₁).2, ?_⟩)
  simp only [Is] at i₁
  obtain ⟨t, rfl⟩ := i₁
  refine Calls.callWith_builtin rfl ?_
  have h : wpAny (model pw w) A (spliced (backTo pos (starEach [.Constant (.str y) k₁ p₁, .Constant (.str z) k₂ p₂] e))) (fun vs s' => wpAny (model pw w) A (PySem.call (.builtin "str.replace") ([.str x t] ++ vs)) (fun v s' => Kp s s' ∧ Is s'.heap X (.str (Txt.replace x y z)) v) Bot s') Bot s₁ :=
    wpAny_items_cons (wpAny_Constant_str (wpAny_items_cons (wpAny_Constant_str (wpAny_items_nil (by
      have htk := c₁.tk
      have hk2 : Kp s₁ { s₁ with toks := s₁.toks + 1 + 1 } := Kp.tok _ _ (by omega)
      have base : Kp s { s₁ with toks := s₁.toks + 1 + 1 } := kk.trans hk2
      refine wpb (wpKp (s := { s₁ with toks := s₁.toks + 1 + 1 }) (SC.replace (u := s₁.toks) (v := s₁.toks + 1) (Nat.ne_of_gt htk) (Nat.succ_ne_zero _) (Nat.ne_of_lt (Nat.lt_succ_self _)) hyz hb fun t' k => ⟨kq _ _, ?_⟩)) fun r s₂ ⟨k₂, i₂⟩ => ⟨base.trans k₂, i₂⟩
      simp only [Is]; exact ⟨_, rfl⟩))) rfl)) rfl
  exact Calls.evalArgs_plain h
theorem strs_vals {h : Heap} : ∀ {texts : List Str} {vs : List Value}, IsAll h X (texts.map .str) vs → ∃ l : List (Str × Tok), vs = strValues l ∧ l.map (·.1) = texts
  | [], vs, i => by simp only [List.map_nil, IsAll] at i; subst i; exact ⟨[], rfl, rfl⟩
  | x :: r, vs, i => by
    simp only [List.map_cons, IsAll, Is] at i
    obtain ⟨v, r', rfl, ⟨t, rfl⟩, hr⟩ := i
    obtain ⟨l, rfl, h2⟩ := strs_vals hr
    exact ⟨(x, t) :: l, rfl, by simp [h2]⟩
theorem vals_strs {h : Heap} : ∀ (l : List (Str × Tok)), IsAll h X ((l.map (·.1)).map .str) (strValues l)
  | [] => by simp [IsAll, strValues]
  | (x, t) :: l => by
    simp only [List.map_cons, IsAll, Is, strValues]
    exact ⟨_, _, rfl, ⟨t, rfl⟩, vals_strs l⟩
theorem OpC.join {sep : Str} {texts : List Str} (hok : JoinOk sep texts = true) : OpC w A X (.builtin "str.join") [.str sep, .lst (texts.map .str)] (.str (Txt.join sep texts)) := .mk fun s vs _ _ _ i₁ => by
  obtain ⟨v, v', rfl, iv, iv'⟩ := i₁.two
  simp only [Is] at iv iv'; obtain ⟨t, rfl⟩ := iv
  obtain ⟨a, vs, rfl, _, hl, hi⟩ := iv'
  obtain ⟨l, rfl, ht⟩ := strs_vals hi
  exact wpKp (SC.join hl.isList ht hok fun t' k => ⟨kq _ _, by simp only [Is]; exact ⟨_, rfl⟩⟩)
theorem OpC.split {x y : Str} (hy : (y.length == 0) = false) (hsz : x.length ≤ sizeLine) (hsz2 : (Builtin.Str.partsBetween x (Builtin.Str.occurrences x y 0 x.length (x.length + 1)) y.length).length ≤ sizeLine) :
    OpC w A X (.builtin "str.split") [.str x, .str y] (.lst ((Txt.split x y).map .str)) := .mk fun s vs _ _ xin i₁ => by
  obtain ⟨v, v', rfl, iv, iv'⟩ := i₁.two
  simp only [Is] at iv iv'; obtain ⟨t, rfl⟩ := iv; obtain ⟨u, rfl⟩ := iv'
  have fin : ∀ (l : List (Str × Tok)) (tk : Nat), l.map (·.1) = Txt.split x y → Keeps s { s with toks := tk, heap := s.heap.push { cls := .type "list", data := .seq (strValues l).toArray } } ∧
      Is (s.heap.push { cls := .type "list", data := .seq (strValues l).toArray }) X (.lst ((Txt.split x y).map .str)) (.ref s.heap.objs.size) := fun l tk hl => by
    refine ⟨⟨_, tk, rfl, fun b o h => Heap.get?_push_of_some _ h⟩, ?_⟩
    rw [← hl]
    exact Is.newLst xin (vals_strs l)
  refine wpKp ?_
  cases h1 : (decide (x.length < y.length) || decide (Builtin.Str.strKind x < Builtin.Str.strKind y))
  · cases hf : (Builtin.Str.occurrences x y 0 x.length (x.length + 1)).isEmpty
    · refine call_meets F.slot_str_split (typeIs_str _ _ _) F.entry_str_split (F.args_str_split_2 _ _) (meets_str_split_sep x y t u h1 hy hf hsz hsz2) ?_
      rw [strsFrom_eq]
      exact fin (numbered s.toks _) _ ((numbered_texts _ _).trans ((if_neg (ne_true_of_eq_false h1)).trans (if_neg (ne_true_of_eq_false hf))).symm)
    · exact call_meets F.slot_str_split (typeIs_str _ _ _) F.entry_str_split (F.args_str_split_2 _ _) (meets_str_split_not_found x y t u h1 hy hf)
        (fin [(x, t)] _ ((if_neg (ne_true_of_eq_false h1)).trans (if_pos hf)).symm)
  · exact call_meets F.slot_str_split (typeIs_str _ _ _) F.entry_str_split (F.args_str_split_2 _ _) (meets_str_split_cannot_occur x y t u h1)
      (fin [(x, t)] _ (if_pos h1).symm)
theorem OpS.strFrom {x : Str} {n : Int} (hsz : x.length ≤ sizeLine) : OpS w A X (.str x) (some n) Option.none (.str (Txt.slice x (some n) Option.none)) := .mk fun s a vl vu pl pu xin i => by
  simp only [Is] at i
  obtain ⟨t, rfl⟩ := i
  cases pu
  cases pl with
  | int _ u =>
    refine wpKp (wpAny_getItem_str_slice (l := some (n, u)) (u := Option.none) (st := Option.none) ⟨_, Heap.get?_push_size _ rfl, rfl, rfl⟩ rfl
      (post_val_or_str ⟨Nat.le_trans (Txt.slice_le x (some n) Option.none) hsz, fun t' k => ⟨kq _ _, ?_⟩⟩))
    simp only [Is]; exact ⟨_, rfl⟩

/-! ## lists of the frame's own: append, pop -/
noncomputable def setOw (Ow : Owns) (a : Addr) (ds : List Dt) : Owns := Ow.map fun p => if p.1 = a then (a, ds) else p
theorem setOw_addr (Ow : Owns) (a : Addr) (ds : List Dt) : (setOw Ow a ds).map (·.1) = Ow.map (·.1) := by
  unfold setOw
  rw [List.map_map]
  refine List.map_congr_left fun p hp => ?_
  simp only [Function.comp]
  split
  · rename_i h; exact h.symm
  · rfl
/-- the frame when one of its lists is changed -/
theorem Fn.changed {a : Addr} {ds : List Dt} {vs : List Value} {h' : Heap} {o₀ : Obj} (F : Fn w s₀ Mu e X Ow Γ s) (ha : ∃ ds₀, (a, ds₀) ∈ Ow) (hs : Heap.SameBut a s.heap h') (hl : h'.PlainList a vs.toArray) (hi : IsAll s.heap X ds vs) (ho : s.heap.get? a = some o₀) (hK : (KK w.params).lookup a = Option.none) :
    Fn w s₀ Mu e X (setOw Ow a ds) Γ { s with heap := h' } := by
  obtain ⟨ds₀, ha⟩ := ha
  have haX := (F.ow _ ha).1
  have hLa : a ≠ e.locals ∧ ∀ p ∈ e.cells, a ≠ p.2 := by
    obtain ⟨_, vs', b, _⟩ := F.ow _ ha
    exact F.toFs.ow_ne b
  have up : ∀ b o, b ≠ a → s.heap.get? b = some o → h'.get? b = some o := fun b o hb h => SameBut.back hs hb h
  have out : ∀ b o, b ∉ X → s.heap.get? b = some o → h'.get? b = some o ∧ b ∉ X := fun b o hb h => ⟨up b o (fun q => hb (q ▸ haX)) h, hb⟩
  refine { tk := F.tk, tk0 := F.tk0, wd := fun b o h => up b o (fun q => by rw [q, hK] at h; cases h) (F.wd b o h), xin := fun b hb => ?_, ow := fun p hp => ?_, vars := fun p hp => ?_, cl := fun p hp => ?_, cx := F.cx, ap := F.ap, wc := F.wc, ns := ?_, lx := F.lx, wl := F.wl, same := ?_, keep0 := fun b o hb hbo => ?_, lm := F.lm, oo := fun p hp => ?_ }
  · by_cases q : b = a
    · obtain ⟨n, h⟩ := hl; exact ⟨_, q ▸ h⟩
    · obtain ⟨o, h⟩ := F.xin b hb; exact ⟨o, up b o q h⟩
  · unfold setOw at hp
    obtain ⟨p', hp', rfl⟩ := List.mem_map.mp hp
    split
    · exact ⟨haX, vs, hl, hi.ext out⟩
    · rename_i hne
      obtain ⟨x, us, b, c⟩ := F.ow p' hp'
      exact ⟨x, us, b.at fun o h => up _ o hne h, c.ext out⟩
  · obtain ⟨v, x, y⟩ := F.vars p hp
    refine ⟨v, ?_, y.ext out⟩
    rcases x with ⟨x, m, ⟨o, es, ep, h, r⟩, c⟩ | ⟨x, b, c, d, o, h, hd⟩
    · exact .inl ⟨x, m, ⟨o, es, ep, up _ o (Ne.symm hLa.1) h, r⟩, c⟩
    · exact .inr ⟨x, b, c, d, o, up _ o (Ne.symm (hLa.2 _ (mem_of_lookup d))) h, hd⟩
  · obtain ⟨v, o, h, hd⟩ := F.cl p hp
    exact ⟨v, o, up _ o (Ne.symm (hLa.2 p hp)) h, hd⟩
  · obtain ⟨m, o, es, ep, h, r⟩ := F.ns
    exact ⟨m, o, es, ep, up _ o (Ne.symm hLa.1) h, r⟩
  · obtain ⟨h, t, e0⟩ := F.same
    exact ⟨h', t, by rw [e0]⟩
  · refine up b o (fun q => ?_) (F.keep0 b o hb hbo)
    rcases F.oo _ ha with x | x
    · exact hb (q ▸ x)
    · rw [q] at hbo; rw [x] at hbo; cases hbo
  · have : p.1 ∈ (setOw Ow a ds).map (·.1) := List.mem_map_of_mem hp
    rw [setOw_addr] at this
    obtain ⟨r, hr, hre⟩ := List.mem_map.mp this
    rw [← hre]; exact F.oo r hr
theorem Fn.own_K (F : Fn w s₀ Mu e X Ow Γ s) (hMu : ∀ a ∈ Mu, s₀.heap.get? a = Option.none) (wd₀ : Wd w s₀.heap) {a : Addr} {ds : List Dt} (ha : (a, ds) ∈ Ow) : (KK w.params).lookup a = Option.none := by
  cases q : (KK w.params).lookup a with
  | none => rfl
  | some o =>
    have := wd₀ a o q
    rcases F.oo _ ha with h | h
    · rw [hMu a h] at this; cases this
    · rw [h] at this; cases this
/-- l.append(x) -/
theorem Fn.append {o elt : Expr} {apos pos spos : Pos} {a : Addr} {ds : List Dt} {d : Dt} {Q : Flow → Shared → Prop} {E : Value → Shared → Prop} (F : Fn w s₀ Mu e X Ow Γ s) (ho : Ev w A e X Ow Γ o (.own a)) (ha : (a, ds) ∈ Ow) (hK : (KK w.params).lookup a = Option.none) (hx : Ev w A e X Ow Γ elt d) (hsz : ds.length ≤ sizeLine)
    (h : ∀ s', Fn w s₀ Mu e X (setOw Ow a (ds ++ [d])) Γ s' → Q .next s')
    (hbase : attributeBase o "append" e (eval o e) = eval o e := by rfl)
    (hline : (apos.endLine == pos.line) = true := by rfl)
    (htrees : backTo pos (starEach [elt] e) = [(false, eval elt e)] := by rfl)
    (hi : interactive e = false := by rfl) (hsw : swapsWith (.Call (.Attribute o "append" apos) [elt] [] pos) Option.none spos.line e = pure false := by rfl) :
    Wp w A (exec (.Expr (.Call (.Attribute o "append" apos) [elt] [] pos) spos) e) Q E s := by
  refine .mk ?_
  rw [exec_Expr (hi := hi) (hs := hsw)]
  refine wpAny_bind (wpAny_standAt (wpAny_bind ?_))
  refine wpAny_Call_append hbase (by rw [htrees]; rfl) hline htrees (ho.use F.toCx fun v s₁ k₁ c₁ i₁ => ?_)
  simp only [Is] at i₁
  subst i₁
  have F₁ := F.kp k₁
  obtain ⟨_, vs₁, ⟨n₁, hl₁⟩, _⟩ := c₁.ow _ ha
  refine ⟨a, vs₁.toArray, rfl, ⟨_, n₁, hl₁, rfl, rfl, rfl⟩, hx.use c₁ fun y s₂ k₂ c₂ i₂ => ?_⟩
  have F₂ := F₁.kp k₂
  obtain ⟨_, vs, ⟨n, hl⟩, hvs⟩ := c₂.ow _ ha
  refine wpAny_list_append_plain (items := vs.toArray) ⟨n, hl⟩ (fun h' hl' hs' => ?_) (by simp [hvs.length]; exact hsz)
  refine wpAny_dropValue (h _ (F₂.changed ⟨ds, ha⟩ hs' (vs := vs ++ [y]) (by simpa using hl') ?_ hl hK))
  exact hvs.append (by simp only [IsAll]; exact ⟨y, _, rfl, i₂, rfl⟩)
/-- l.pop() -/
theorem Fn.pop {o : Expr} {apos pos spos : Pos} {a : Addr} {ds : List Dt} {d : Dt} {Q : Flow → Shared → Prop} {E : Value → Shared → Prop} (F : Fn w s₀ Mu e X Ow Γ s) (ho : Ev w A e X Ow Γ o (.own a)) (ha : (a, ds ++ [d]) ∈ Ow) (hK : (KK w.params).lookup a = Option.none) (hsz : ds.length + 1 ≤ sizeLine)
    (h : ∀ s', Fn w s₀ Mu e X (setOw Ow a ds) Γ s' → Q .next s')
    (hbase : attributeBase o "pop" e (eval o e) = eval o e := by rfl)
    (hline : (apos.endLine == pos.line) = true := by rfl)
    (hfew : ((backTo pos (starEach [] e)).all (fun x => !x.1) && (backToKw pos (keywordEach [] e)).all (fun x => x.1.isSome)
      && decide (([] : List Expr).length + ([] : List Keyword).length + (if ([] : List Keyword).isEmpty then 0 else 1) < 30)) = true := by rfl)
    (hi : interactive e = false := by rfl) (hsw : swapsWith (.Call (.Attribute o "pop" apos) [] [] pos) Option.none spos.line e = pure false := by rfl) :
    Wp w A (exec (.Expr (.Call (.Attribute o "pop" apos) [] [] pos) spos) e) Q E s := by
  refine .mk ?_
  rw [exec_Expr (hi := hi) (hs := hsw)]
  refine wpAny_bind (wpAny_standAt (wpAny_bind ?_))
  refine wpAny_Call_method hbase hfew hline PySem.F.plainAttrs_list PySem.F.slot_list_pop PySem.F.type_list_pop (ho.use F.toCx fun v s₁ k₁ c₁ i₁ => ?_)
  simp only [Is] at i₁
  subst i₁
  have F₁ := F.kp k₁
  obtain ⟨_, vs, ⟨n, hl⟩, hvs⟩ := c₁.ow _ ha
  dsimp only at hl hvs
  refine ⟨⟨_, hl, rfl⟩, fun b q => ⟨_, by injection q with q; exact q ▸ hl, rfl⟩, ?_⟩
  have hlen := hvs.length
  simp only [List.length_append, List.length_cons, List.length_nil] at hlen
  obtain ⟨y, hy, _⟩ := hvs.nth (i := ds.length) (d := d) (by simp)
  refine P.pop_list (items := vs.toArray) hl (y := y) (by rw [List.size_toArray, hlen, List.getElem?_toArray]; exact hy) (wpAny_dropValue ?_) (by simp [hlen]; omega)
  refine h _ (F₁.changed ⟨_, ha⟩ (Heap.SameBut.update ..) (vs := vs.take ds.length) ?_ ?_ hl hK)
  · have e1 : (vs.toArray.eraseIdxIfInBounds (vs.toArray.size - 1)) = (vs.take ds.length).toArray := by
      rw [Array.eraseIdxIfInBounds, dif_pos (by simp [hlen])]
      apply Array.toList_inj.mp
      simp only [Array.toList_eraseIdx, List.size_toArray, hlen]
      rw [show ds.length + 1 - 1 = ds.length by omega]
      rw [List.eraseIdx_eq_take_drop_succ, List.drop_eq_nil_of_le (by omega), List.append_nil]
    have h2 := IsL.update (show IsL s₁.heap a vs.toArray n from hl) (fun xs => xs.eraseIdxIfInBounds (vs.toArray.size - 1))
    rw [e1] at h2
    exact ⟨_, h2⟩
  · have := hvs.cut 0 ds.length
    simpa using this
end
end Mine

namespace Mine
open PySem PySem.W

/-! ## formulas -/
inductive Fm where
  | v (i : Fin 3)
  | bin (amp : Bool) (a b : Fm)
  deriving DecidableEq
noncomputable def pqrS : Str := "pqr"
noncomputable def ltr (i : Fin 3) : Str := ⟨#[112 + i.val]⟩
noncomputable def opS (amp : Bool) : Str := if amp then "&" else ">"
noncomputable def Fm.dt : Fm → Dt
  | .v i => .tup [.str (ltr i)]
  | .bin c a b => .tup [.str (opS c), a.dt, b.dt]
noncomputable def Fm.ev : Fm → Nat → Bool
  | .v i, k => k.testBit i.val
  | .bin true a b, k => a.ev k && b.ev k
  | .bin false a b, k => !a.ev k || b.ev k
noncomputable def Fm.dep : Fm → Nat
  | .v _ => 0
  | .bin _ a b => max a.dep b.dep + 1
noncomputable def bi (b : Bool) : Int := if b then 1 else 0
noncomputable def plainL (f : Fm) : List Int := (List.range 8).map fun k => bi (f.ev k)
theorem Fm.ev7 : ∀ f : Fm, f.ev 7 = true
  | .v i => by simp only [Fm.ev]; revert i; decide
  | .bin true a b => by simp [Fm.ev, a.ev7, b.ev7]
  | .bin false a b => by simp [Fm.ev, b.ev7]
end Mine

namespace Mine
open PySem PySem.W

/-! ## a formula's text -/
noncomputable abbrev S (l : List Nat) : Str := ⟨l.toArray⟩
theorem S_append (l m : List Nat) : S l ++ S m = S (l ++ m) := by
  show (⟨l.toArray ++ m.toArray⟩ : Str) = _
  rw [List.append_toArray]
noncomputable def firstL : List Nat := [80, 112, 119823, 119875, 120239]
noncomputable def unseenL : List (List Nat) := [[], [173], [8203], [65279], [8288], [6155]]
noncomputable def ix5 (c : Int) : Nat := (c.fmod 5).toNat
noncomputable def ix6 (c : Int) : Nat := ((c.fdiv 5).fmod 6).toNat
noncomputable def fstOf (c : Int) : Nat := firstL.getD (ix5 c) 0
noncomputable def unsOf (c : Int) : List Nat := unseenL.getD (ix6 c) []
noncomputable def opC (amp : Bool) : Nat := if amp then 38 else 62
noncomputable def txt (c : Int) : Fm → List Nat
  | .v i => (fstOf c + i.val) :: unsOf c
  | .bin amp a b => [40] ++ txt c a ++ [opC amp] ++ txt c b ++ [41]
theorem ix5_lt (c : Int) : ix5 c < 5 ∧ c.fmod 5 = (ix5 c : Nat) := by
  have h1 := Int.fmod_nonneg_of_pos c (b := 5) (by decide)
  have h2 := Int.fmod_lt_of_pos c (b := 5) (by decide)
  unfold ix5; omega
theorem ix6_lt (c : Int) : ix6 c < 6 ∧ (c.fdiv 5).fmod 6 = (ix6 c : Nat) := by
  have h1 := Int.fmod_nonneg_of_pos (c.fdiv 5) (b := 6) (by decide)
  have h2 := Int.fmod_lt_of_pos (c.fdiv 5) (b := 6) (by decide)
  unfold ix6; omega
theorem uns_len (c : Int) : (unsOf c).length ≤ 1 := by
  have : ∀ k : Nat, (unseenL.getD k []).length ≤ 1 := fun k => by
    match k with
    | 0 | 1 | 2 | 3 | 4 | 5 => decide
    | k + 6 => simp [unseenL]
  exact this _
theorem txt_len (c : Int) : ∀ f : Fm, (txt c f).length + 3 ≤ 5 * 2 ^ f.dep
  | .v i => by simp only [txt, List.length_cons, Fm.dep]; have := uns_len c; omega
  | .bin amp a b => by
    have ha := txt_len c a
    have hb := txt_len c b
    have h1 : 2 ^ a.dep ≤ 2 ^ max a.dep b.dep := Nat.pow_le_pow_right (by decide) (Nat.le_max_left _ _)
    have h2 : 2 ^ b.dep ≤ 2 ^ max a.dep b.dep := Nat.pow_le_pow_right (by decide) (Nat.le_max_right _ _)
    simp only [txt, List.length_append, List.length_cons, List.length_nil, Fm.dep, Nat.pow_succ]
    omega
end Mine

namespace Mine
open PySem PySem.W

theorem fm_dkin : ∀ (f g : Fm) (n : Nat), f.dep < n → dkin n f.dt g.dt = true
  | .v i, .v j, n + 1, _ => by simp [Fm.dt, dkin, dkins]
  | .v i, .bin c a b, n + 1, _ => by simp [Fm.dt, dkin, dkins]
  | .bin c a b, .v j, n + 1, _ => by simp [Fm.dt, dkin, dkins]
  | .bin c a b, .bin c' a' b', n + 1, h => by
    simp only [Fm.dep] at h
    have h1 := fm_dkin a a' n (by omega)
    have h2 := fm_dkin b b' n (by omega)
    simp [Fm.dt, dkin, dkins, h1, h2]
theorem ltr_inj (i j : Fin 3) : (ltr i == ltr j) = decide (i = j) := by revert i j; decide
theorem ltr_op (i : Fin 3) (c : Bool) : (ltr i == opS c) = false ∧ (opS c == ltr i) = false := by revert i c; decide
theorem opS_inj (c d : Bool) : (opS c == opS d) = decide (c = d) := by revert c d; decide
theorem fm_deq : ∀ f g : Fm, deq f.dt g.dt = decide (f = g)
  | .v i, .v j => by
    simp only [Fm.dt, deq, deqs, ltr_inj, List.isEmpty_nil, Bool.and_true]
    by_cases h : i = j
    · simp [h]
    · simp [h]
  | .v i, .bin c a b => by simp [Fm.dt, deq, deqs, (ltr_op i c).1]
  | .bin c a b, .v j => by simp [Fm.dt, deq, deqs, (ltr_op j c).2]
  | .bin c a b, .bin c' a' b' => by
    simp only [Fm.dt, deq, deqs, opS_inj, fm_deq a a', fm_deq b b', List.isEmpty_nil, Bool.and_true]
    by_cases h1 : c = c' <;> by_cases h2 : a = a' <;> by_cases h3 : b = b' <;> simp [h1, h2, h3]

noncomputable def ix2 (c : Int) : Nat := (c.fmod 2).toNat
theorem ix2_lt (c : Int) : ix2 c < 2 ∧ c.fmod 2 = (ix2 c : Nat) := by
  have h1 := Int.fmod_nonneg_of_pos c (b := 2) (by decide)
  have h2 := Int.fmod_lt_of_pos c (b := 2) (by decide)
  unfold ix2; omega
noncomputable def takenGo (us : List Fm) (c : Int) : List Fm → Option Fm
  | [] => none
  | .bin true a b :: r => some (if ix2 c = 0 then a else b)
  | .bin false a b :: r => if a ∈ us then some b else takenGo us c r
  | .v _ :: r => takenGo us c r
noncomputable def pickF (us : List Fm) (c : Int) : Fm := us.getD (c.fmod us.length).toNat (.v 0)
noncomputable def taken (us : List Fm) (c : Int) : Fm := (takenGo us c us.reverse).getD (pickF us c)
end Mine

namespace Mine
open PySem PySem.W PySem.StrLaws PySem.Builtin PySem.Builtin.Str

/-! ## one sign replaced by a text -/
noncomputable def subst1 (c : Nat) (z : List Nat) (l : List Nat) : List Nat := l.flatMap fun n => if n = c then z else [n]
theorem subst1_append (c : Nat) (z a b : List Nat) : subst1 c z (a ++ b) = subst1 c z a ++ subst1 c z b := by simp [subst1]
theorem subst1_free (c : Nat) (z : List Nat) : ∀ l : List Nat, c ∉ l → subst1 c z l = l
  | [], _ => rfl
  | k :: r, h => by
    have h1 : ¬ k = c := fun e => h (e ▸ List.mem_cons_self ..)
    have h2 : c ∉ r := fun m => h (List.mem_cons_of_mem _ m)
    have ih := subst1_free c z r h2
    simp only [subst1, List.flatMap_cons, if_neg h1] at ih ⊢
    rw [ih]; rfl
theorem subst1_join (c : Nat) (z : List Nat) : ∀ parts : List Str, (∀ p ∈ parts, c ∉ p.cps.toList) → subst1 c z (Str.join ⟨#[c]⟩ parts).cps.toList = (Str.join (S z) parts).cps.toList
  | [], _ => rfl
  | [p], h => subst1_free c z _ (h p (List.mem_singleton.mpr rfl))
  | p :: q :: r, h => by
    have ih := subst1_join c z (q :: r) fun a ha => h a (List.mem_cons_of_mem _ ha)
    show subst1 c z (p ++ ⟨#[c]⟩ ++ Str.join ⟨#[c]⟩ (q :: r)).cps.toList = (p ++ S z ++ Str.join (S z) (q :: r)).cps.toList
    simp only [Str.cps_append, Array.toList_append]
    rw [subst1_append, subst1_append, ih, subst1_free c z _ (h p (List.mem_cons_self ..))]
    congr 2
    simp [subst1]
theorem replace1 (l z : List Nat) (c : Nat) : Txt.replace (S l) ⟨#[c]⟩ (S z) = S (subst1 c z l) := by
  have h : (Txt.replace (S l) ⟨#[c]⟩ (S z)).cps.toList = subst1 c z l := by
    rw [replace_one, ← subst1_join c z _ (split_free (S l) c), join_split]
  show _ = (⟨(subst1 c z l).toArray⟩ : Str)
  rw [← h]
theorem found1 (l : List Nat) (c : Nat) : (!(Builtin.Str.occurrences (S l) ⟨#[c]⟩ 0 (S l).length 1).isEmpty) = decide (c ∈ l) := found_one (S l) c
theorem subst1_len (c : Nat) (z l : List Nat) : (subst1 c z l).length ≤ l.length * (z.length + 1) := by
  induction l with
  | nil => simp [subst1]
  | cons k r ih =>
    have : (subst1 c z (k :: r)).length ≤ (z.length + 1) + (subst1 c z r).length := by
      simp only [subst1, List.flatMap_cons, List.length_append]
      split <;> simp
    simp only [List.length_cons, Nat.add_mul]
    omega
end Mine

namespace Mine
open PySem PySem.W

/-! ## what _law_drawn draws -/
structure Ln where
  bl : List Nat
  f : Fm
  c : Int
noncomputable def natsDt (l : List Nat) : List Dt := l.map fun n => .int (n : Nat)
noncomputable def Ln.dt (l : Ln) : Dt := .tup [.lst (natsDt l.bl), l.f.dt, .int l.c]
noncomputable def fits (b : List Nat) (l : Ln) : Bool := b.take l.bl.length == l.bl
noncomputable def usableOf (ls : List Ln) (b : List Nat) : List Fm := (ls.filter (fits b)).map (·.f)
noncomputable def ix3 (c : Int) : Fin 3 := ⟨(c.fmod 3).toNat, by
  have h1 := Int.fmod_nonneg_of_pos c (b := 3) (by decide)
  have h2 := Int.fmod_lt_of_pos c (b := 3) (by decide)
  omega⟩
noncomputable def lnAt (ls : List Ln) (k : Nat) : Ln := ls.getD k ⟨[], .v 0, 0⟩
/-- one number drawn: the new line -/
noncomputable def drawn1 (ls : List Ln) (b : List Nat) (v : Int) : Ln :=
  let c := v.fdiv 4
  let us := usableOf ls b
  if b.length < 3 ∧ (v.fmod 4 = 0 ∨ us = [] ∨ (v.fmod 4 = 1 ∧ b = [])) then ⟨b ++ [ls.length], .v (ix3 c), c⟩
  else if v.fmod 4 = 1 then ⟨b.dropLast, .bin false (lnAt ls (b.getLastD 0)).f (lnAt ls (ls.length - 1)).f, c⟩
  else if v.fmod 4 = 2 then ⟨b, .bin true (pickF us c) (pickF us (c.fdiv us.length)), c⟩
  else ⟨b, taken us c, c⟩
noncomputable def drawnGo : List Ln → List Nat → List Int → List Ln
  | ls, _, [] => ls
  | ls, b, v :: r => drawnGo (ls ++ [drawn1 ls b v]) (drawn1 ls b v).bl r
noncomputable def drawnL (ns : List Int) : List Ln := drawnGo [] [] ns

/-! ## what holds of the lines drawn -/
noncomputable def allOf (ls : List Ln) (b : List Nat) (k : Nat) : Bool := b.all fun j => (lnAt ls j).f.ev k
/-- each line holds where its blocks' first lines hold; blocks point back, at most three deep -/
structure Good (ls : List Ln) (b : List Nat) : Prop where
  ok : ∀ l ∈ ls, ∀ k, allOf ls l.bl k = true → l.f.ev k = true
  lt : ∀ l ∈ ls, ∀ j ∈ l.bl, j < ls.length
  bl : ∀ j ∈ b, j < ls.length
  three : b.length ≤ 3 ∧ ∀ l ∈ ls, l.bl.length ≤ 3
  last : ls ≠ [] → (lnAt ls (ls.length - 1)).bl = b
  nil : ls = [] → b = []
  dep : ∀ l ∈ ls, l.f.dep ≤ ls.length
end Mine

namespace Mine
open PySem PySem.W

theorem lnAt_app {ls : List Ln} {d : Ln} {j : Nat} (h : j < ls.length) : lnAt (ls ++ [d]) j = lnAt ls j := by
  unfold lnAt
  rw [List.getD_eq_getElem?_getD, List.getD_eq_getElem?_getD, List.getElem?_append_left h]
theorem lnAt_new {ls : List Ln} {d : Ln} : lnAt (ls ++ [d]) ls.length = d := by
  unfold lnAt
  rw [List.getD_eq_getElem?_getD, List.getElem?_append_right (Nat.le_refl _)]
  simp
theorem lnAt_mem {ls : List Ln} {j : Nat} (h : j < ls.length) : lnAt ls j ∈ ls := by
  unfold lnAt
  rw [List.getD_eq_getElem?_getD, List.getElem?_eq_getElem h]
  exact List.getElem_mem h
theorem allOf_app {ls : List Ln} {d : Ln} {b : List Nat} {k : Nat} (h : ∀ j ∈ b, j < ls.length) : allOf (ls ++ [d]) b k = allOf ls b k := by
  unfold allOf
  rw [Bool.eq_iff_iff]
  simp only [List.all_eq_true]
  exact ⟨fun q j hj => by have := q j hj; rwa [lnAt_app (h j hj)] at this, fun q j hj => by rw [lnAt_app (h j hj)]; exact q j hj⟩
theorem allOf_take {ls : List Ln} {b : List Nat} {k n : Nat} (h : allOf ls b k = true) : allOf ls (b.take n) k = true := by
  unfold allOf at *
  rw [List.all_eq_true] at *
  exact fun j hj => h j (List.mem_of_mem_take hj)
/-- what is usable holds here -/
theorem usable_ok {ls : List Ln} {b : List Nat} (g : Good ls b) {f : Fm} (hf : f ∈ usableOf ls b) : (∀ k, allOf ls b k = true → f.ev k = true) ∧ f.dep ≤ ls.length := by
  obtain ⟨l, hl, rfl⟩ := List.mem_map.mp hf
  obtain ⟨h1, h2⟩ := List.mem_filter.mp hl
  have h3 : b.take l.bl.length = l.bl := by simpa [fits] using h2
  exact ⟨fun k hk => g.ok l h1 k (by rw [← h3]; exact allOf_take hk), g.dep l h1⟩
theorem last_usable {ls : List Ln} {b : List Nat} (g : Good ls b) (h : ls ≠ []) : (lnAt ls (ls.length - 1)).f ∈ usableOf ls b := by
  have hl : ls.length - 1 < ls.length := by have := List.length_pos_iff.mpr h; omega
  refine List.mem_map_of_mem (List.mem_filter.mpr ⟨lnAt_mem hl, ?_⟩)
  unfold fits
  rw [g.last h]
  simp
theorem usable_ne {ls : List Ln} {b : List Nat} (g : Good ls b) (h : ls ≠ []) : usableOf ls b ≠ [] := fun q => by
  have := last_usable g h
  rw [q] at this; cases this
theorem pick_mem {us : List Fm} (h : us ≠ []) (c : Int) : pickF us c ∈ us := by
  have hp := List.length_pos_iff.mpr h
  have h1 := Int.fmod_nonneg_of_pos c (b := us.length) (by omega)
  have h2 := Int.fmod_lt_of_pos c (b := us.length) (by omega)
  have h3 : (c.fmod us.length).toNat < us.length := by omega
  unfold pickF
  rw [List.getD_eq_getElem?_getD, List.getElem?_eq_getElem h3]
  exact List.getElem_mem h3
/-- what is taken follows from what is usable -/
theorem taken_ok {us : List Fm} (h : us ≠ []) (c : Int) (D : Nat) (hD : ∀ f ∈ us, f.dep ≤ D) : (∀ k, (∀ f ∈ us, f.ev k = true) → (taken us c).ev k = true) ∧ (taken us c).dep ≤ D := by
  have go : ∀ l : List Fm, (∀ f ∈ l, f ∈ us) → ∀ g, takenGo us c l = some g → (∀ k, (∀ f ∈ us, f.ev k = true) → g.ev k = true) ∧ g.dep ≤ D := by
    intro l
    induction l with
    | nil => intro _ g hg; simp [takenGo] at hg
    | cons f r ih =>
      intro hl g hg
      have hf := hl f List.mem_cons_self
      have hd := hD f hf
      have ih := ih (fun x hx => hl x (List.mem_cons_of_mem _ hx))
      cases f with
      | v i => simp only [takenGo] at hg; exact ih g hg
      | bin amp a b =>
        simp only [Fm.dep] at hd
        cases amp with
        | true =>
          simp only [takenGo, Option.some.injEq] at hg
          subst hg
          refine ⟨fun k hk => ?_, ?_⟩
          · have := hk _ hf
            simp only [Fm.ev, Bool.and_eq_true] at this
            split
            · exact this.1
            · exact this.2
          · split <;> omega
        | false =>
          simp only [takenGo] at hg
          split at hg
          · rename_i ha
            cases hg
            refine ⟨fun k hk => ?_, by omega⟩
            have h1 := hk _ hf
            have h2 := hk _ ha
            simp only [Fm.ev, h2, Bool.not_true, Bool.false_or] at h1
            exact h1
          · exact ih g hg
  unfold taken
  cases q : takenGo us c us.reverse with
  | some g => exact go us.reverse (fun f hf => by simpa using hf) g q
  | none =>
    have := pick_mem h c
    exact ⟨fun k hk => hk _ this, hD _ this⟩
end Mine
namespace Mine
open PySem PySem.W
theorem allOf_dropLast {ls : List Ln} {b : List Nat} {k : Nat} (hb : b ≠ []) : allOf ls b k = (allOf ls b.dropLast k && (lnAt ls (b.getLastD 0)).f.ev k) := by
  unfold allOf
  have e : b = b.dropLast ++ [b.getLastD 0] := by
    rw [List.getLastD_eq_getLast?, List.getLast?_eq_some_getLast hb]
    exact (List.dropLast_concat_getLast hb).symm
  conv => lhs; rw [e]
  simp
theorem Good.step {ls : List Ln} {b : List Nat} (g : Good ls b) (v : Int) : Good (ls ++ [drawn1 ls b v]) (drawn1 ls b v).bl := by
  have key : (∀ k, allOf (ls ++ [drawn1 ls b v]) (drawn1 ls b v).bl k = true → (drawn1 ls b v).f.ev k = true) ∧ (∀ j ∈ (drawn1 ls b v).bl, j < ls.length + 1) ∧ (drawn1 ls b v).bl.length ≤ 3 ∧ (drawn1 ls b v).f.dep ≤ ls.length + 1 := by
    unfold drawn1
    dsimp only
    split
    · rename_i h
      refine ⟨fun k hk => ?_, fun j hj => ?_, ?_, Nat.zero_le _⟩
      · simp only [allOf, List.all_append, Bool.and_eq_true, List.all_cons, List.all_nil, Bool.and_true] at hk
        rw [lnAt_new] at hk
        exact hk.2
      · rcases List.mem_append.mp hj with hj | hj
        · have := g.bl j hj; omega
        · rw [List.mem_singleton.mp hj]; omega
      · simp; omega
    · rename_i h
      have hls : ls ≠ [] := fun q => by
        have hb := g.nil q
        refine h ⟨by rw [hb]; simp, .inr (.inl ?_)⟩
        rw [q]; rfl
      have hus := usable_ne g hls
      have hpos : 0 < ls.length := List.length_pos_iff.mpr hls
      have hlast := last_usable g hls
      split
      · rename_i h1
        have hb : b ≠ [] := fun q => h ⟨by rw [q]; simp, .inr (.inr ⟨h1, q⟩)⟩
        have hbl : b.getLastD 0 ∈ b := by rw [List.getLastD_eq_getLast?, List.getLast?_eq_some_getLast hb]; exact List.getLast_mem hb
        have hlt := g.bl _ hbl
        refine ⟨fun k hk => ?_, fun j hj => ?_, ?_, ?_⟩
        · rw [allOf_app (fun j hj => g.bl j ((List.dropLast_sublist b).subset hj))] at hk
          simp only [Fm.ev]
          cases q : (lnAt ls (b.getLastD 0)).f.ev k with
          | false => rfl
          | true =>
            have := (usable_ok g hlast).1 k (by rw [allOf_dropLast hb, hk, q]; rfl)
            rw [this]; rfl
        · have := g.bl j ((List.dropLast_sublist b).subset hj); omega
        · have := g.three.1
          simp; omega
        · have d1 := g.dep _ (lnAt_mem hlt)
          have d2 := (usable_ok g hlast).2
          simp only [Fm.dep]; omega
      · split
        · refine ⟨fun k hk => ?_, fun j hj => ?_, g.three.1, ?_⟩
          · rw [allOf_app g.bl] at hk
            simp only [Fm.ev, (usable_ok g (pick_mem hus _)).1 k hk, Bool.and_self]
          · have := g.bl j hj; omega
          · have d1 := (usable_ok g (pick_mem hus (v.fdiv 4))).2
            have d2 := (usable_ok g (pick_mem hus ((v.fdiv 4).fdiv (usableOf ls b).length))).2
            simp only [Fm.dep]; omega
        · have ht := taken_ok hus (v.fdiv 4) ls.length fun f hf => (usable_ok g hf).2
          refine ⟨fun k hk => ?_, fun j hj => ?_, g.three.1, Nat.le_succ_of_le ht.2⟩
          · rw [allOf_app g.bl] at hk
            exact ht.1 k fun f hf => (usable_ok g hf).1 k hk
          · have := g.bl j hj; omega
  obtain ⟨k1, k2, k3, k4⟩ := key
  generalize drawn1 ls b v = d at *
  refine ⟨fun l hl k hk => ?_, fun l hl j hj => ?_, fun j hj => by have := k2 j hj; simpa using this, ⟨k3, fun l hl => ?_⟩, fun _ => ?_, fun h => by simp at h, fun l hl => ?_⟩
  · rcases List.mem_append.mp hl with hl | hl
    · rw [allOf_app (g.lt l hl)] at hk; exact g.ok l hl k hk
    · rw [List.mem_singleton.mp hl] at hk ⊢; exact k1 k hk
  · rw [List.length_append, List.length_singleton]
    rcases List.mem_append.mp hl with hl | hl
    · have := g.lt l hl j hj; omega
    · rw [List.mem_singleton.mp hl] at hj; exact k2 j hj
  · rcases List.mem_append.mp hl with hl | hl
    · exact g.three.2 l hl
    · rw [List.mem_singleton.mp hl]; exact k3
  · rw [List.length_append, List.length_singleton, Nat.add_sub_cancel, lnAt_new]
  · rw [List.length_append, List.length_singleton]
    rcases List.mem_append.mp hl with hl | hl
    · have := g.dep l hl; omega
    · rw [List.mem_singleton.mp hl]; exact k4
theorem Good.nil0 : Good [] [] := ⟨fun l h => (nomatch h), fun l h => (nomatch h), fun j h => (nomatch h), ⟨by simp, fun l h => (nomatch h)⟩, fun h => absurd rfl h, fun _ => rfl, fun l h => (nomatch h)⟩
theorem Good.go : ∀ (ns : List Int) (ls : List Ln) (b : List Nat), Good ls b → ∃ b', Good (drawnGo ls b ns) b' ∧ (drawnGo ls b ns).length = ls.length + ns.length
  | [], ls, b, g => ⟨b, g, rfl⟩
  | v :: r, ls, b, g => by
    obtain ⟨b', h1, h2⟩ := Good.go r _ _ (g.step v)
    exact ⟨b', h1, by rw [drawnGo, h2]; simp; omega⟩
end Mine

namespace Mine
open PySem PySem.W PyProof.Rows PySem.SeqAt

section
variable {w : World} {A : Around} {s₀ : Shared} {Mu : List Addr} {e : Env} {X : List Addr} {Ow : Owns} {Γ : List (Str × Dt)} {s : Shared}

/-- a local name is bound anew: nothing but the frame's names changes -/
theorem Fs.storeL {x : Str} {d : Dt} {v : Value} {Q : Unit → Shared → Prop} {E : Value → Shared → Prop} (F : Fs w e X Ow Γ s) (hk : e.scope.kind = .function) (hi : Is s.heap X d v)
    (hx : e.kindOf x = some .local) (h : ∀ s', Fs w e X Ow (upd Γ x d) s' → Kw [e.locals] s s' → Q () s') : wpAny (model pw w) A (storeName e x v) Q E s := by
  have wdne : ∀ {b : Addr}, (KK w.params).lookup b = none → ∀ a o, (KK w.params).lookup a = some o → a ≠ b := fun hb a o ho e => by
    rw [e, hb] at ho; cases ho
  obtain ⟨m, hm⟩ := F.ns
  refine wpAny_storeName_local hx hm (fun h' hn hs => h _ ?_ ⟨Nat.le_succ _, ⟨_, _, rfl⟩, fun b o hb ho => SameBut.back hs (by simpa using hb) ho⟩) (by rw [hk]; rfl)
  have up : ∀ b o, b ≠ e.locals → s.heap.get? b = some o → h'.get? b = some o := fun b o hb e => SameBut.back hs hb e
  refine { wd := fun a o ho => up a o (wdne F.wl a o ho) (F.wd a o ho), xin := fun a ha => ?_, ow := fun p hp => ?_, vars := fun p hp => ?_, ns := ⟨_, hn⟩, cl := fun p hp => ?_, lx := F.lx, cx := F.cx, ap := F.ap, wc := F.wc, wl := F.wl, tk := Nat.lt_succ_of_lt F.tk }
  · by_cases q : a = e.locals
    · obtain ⟨o, _, _, ho, _⟩ := hn; exact ⟨o, q ▸ ho⟩
    · obtain ⟨o, ho⟩ := F.xin a ha; exact ⟨o, up a o q ho⟩
  · obtain ⟨a, vs, b, c⟩ := F.ow p hp
    exact ⟨a, vs, b.at fun o ho => up _ o (F.ow_ne b).1 ho, c.ext fun b o hb ho => ⟨up b o (fun q => hb (q ▸ F.lx)) ho, hb⟩⟩
  · rcases List.mem_cons.mp hp with rfl | hp
    · exact ⟨v, .inl ⟨hx, _, hn, by simp⟩, hi.but hs F.lx⟩
    · obtain ⟨hp1, hp2⟩ := List.mem_filter.mp hp
      have hne : p.1 ≠ x := by simpa using hp2
      obtain ⟨u, hv, hu⟩ := F.vars p hp1
      refine ⟨u, ?_, hu.but hs F.lx⟩
      rcases hv with ⟨a, m', b, c⟩ | ⟨a, b, cc, c, o, ho, hd⟩
      · refine .inl ⟨a, _, hn, ?_⟩
        rw [Ns.same b hm] at c
        simp only [hne, if_false]; exact c
      · exact .inr ⟨a, b, cc, c, o, up _ o (F.cell_ne _ (mem_of_lookup c)) ho, hd⟩
  · obtain ⟨cv, o, ho, hd⟩ := F.cl p hp
    exact ⟨cv, o, up _ o (F.cell_ne p hp) ho, hd⟩
theorem Fs.storeAllL (hk : e.scope.kind = .function) {E : Value → Shared → Prop} : ∀ (ns : List (Str × Pos)) (ds : List Dt) (vs : List Value) (Γ : List (Str × Dt)) (s : Shared) (Q : Unit → Shared → Prop), Fs w e X Ow Γ s → (∀ n ∈ ns, e.kindOf n.1 = some .local) → ns.length = ds.length → IsAll s.heap X ds vs →
    (∀ s', Fs w e X Ow (updAll Γ ((ns.map (·.1)).zip ds)) s' → Kw [e.locals] s s' → Q () s') → wpAny (model pw w) A (assignInOrder (ns.map fun n => PySem.assign (.Name n.1 n.2) e) vs) Q E s
  | [], [], vs, Γ, s, Q, F, _, _, i, h => by
    simp only [IsAll] at i; subst i
    exact wpAny_pure (h s F (Kw.refl s))
  | [], _ :: _, _, _, _, _, _, _, l, _, _ => by simp at l
  | _ :: _, [], _, _, _, _, _, _, l, _, _ => by simp at l
  | n :: ns, d :: ds, vs, Γ, s, Q, F, hs, l, i, h => by
    simp only [IsAll] at i
    obtain ⟨v, r, rfl, hv, hr⟩ := i
    refine assign_step (wpAny_assign_Name (F.storeL hk hv (hs n List.mem_cons_self) fun s' G k => ?_))
    exact Fs.storeAllL hk ns ds r _ s' Q G (fun m hm => hs m (List.mem_cons_of_mem _ hm)) (by simpa using l) (hr.ext fun b o hb ho => ⟨k.keep b o (fun q => hb ((List.mem_singleton.mp q) ▸ F.lx)) ho, hb⟩) fun s'' H k' => h s'' H (k.trans k')
theorem Fs.unpackL {elts : List Expr} {k : Nat} {tp : Pos} {ds : List Dt} {v : Value} {Q : Unit → Shared → Prop} {E : Value → Shared → Prop} (F : Fs w e X Ow Γ s) (hh : A.handled = none) (hk : e.scope.kind = .function) (i : Is s.heap X (.tup ds) v)
    (hs : ∀ n ∈ namesOf elts, e.kindOf n.1 = some .local) (hl : (namesOf elts).length = ds.length)
    (h : ∀ s', Fs w e X Ow (updAll Γ (((namesOf elts).map (·.1)).zip ds)) s' → Kw [e.locals] s s' → Q () s')
    (he : (assignEach elts e).map (·.2) = (namesOf elts).map fun n => PySem.assign (.Name n.1 n.2) e) (hst : (assignEach elts e).findIdx? (·.1) = none) :
    wpAny (model pw w) A (PySem.assign (.Tuple elts k tp) e v) Q E s := by
  simp only [Is] at i
  obtain ⟨a, vs, rfl, ha, ht, hi⟩ := i
  show wpAny _ _ (do standAt tp; PySem.unpack (.ref a) (assignEach elts e)) _ _ _
  have hlen : (assignEach elts e).length = vs.toArray.size := by
    have := congrArg List.length he
    simp only [List.length_map] at this
    rw [this, hl, List.size_toArray, hi.length]
  refine wpAny_bind (wpAny_standAt (unpack_tuple hh ht hlen hst fun h' hx => ?_))
  have kp : Kp s { s with heap := h' } := Kp.mk' fun b o ho => hx b o (Nat.ne_of_lt (Heap.lt_size ho)) ho
  rw [he]
  exact Fs.storeAllL hk _ ds vs Γ _ Q (F.kp kp) hs hl (hi.keep kp.ext) fun s' G k => h s' G (kp.kw.trans k)

/-! the usual comprehensions -/
theorem tests_none {X' : List Addr} {Γ : List (Str × Dt)} (s' : Shared) (c : Cx w e X' Ow Γ s') : wpAny (model pw w) A (forIn ([] : List Expr) true fun c r => if r = true then do let ok ← isTrue c e (eval c e); pure (ForInStep.yield ok) else pure (ForInStep.yield r)) (fun ok s₃ => Kp s' s₃ ∧ ok = true) Bot s' := by
  rw [List.forIn_nil]; exact wpAny_pure ⟨Kp.refl _, rfl⟩
theorem tests_one {X' : List Addr} {Γ : List (Str × Dt)} {t : Expr} {b : Bool} (h : EvT w A e X' Ow Γ t b) (s' : Shared) (c : Cx w e X' Ow Γ s') : wpAny (model pw w) A (forIn [t] true fun c r => if r = true then do let ok ← isTrue c e (eval c e); pure (ForInStep.yield ok) else pure (ForInStep.yield r)) (fun ok s₃ => Kp s' s₃ ∧ ok = b) Bot s' := by
  rw [List.forIn_cons]
  simp only [if_true, List.forIn_nil]
  exact wpAny_bind (wpAny_bind (wpb (h.h s' c) fun ok s₃ ⟨k, q⟩ => wpAny_pure (wpAny_pure ⟨k, q⟩)))
noncomputable def apart (Γ : List (Str × Dt)) (x : Str) : Bool := Γ.all fun p => !(p.1 == x)
theorem upd_apart {x : Str} {d : Dt} (h : apart Γ x = true) : upd Γ x d = (x, d) :: Γ := by
  unfold upd
  congr 1
  rw [List.filter_eq_self]
  exact fun p hp => List.all_eq_true.mp h p hp
theorem bind_name {scope : Scope} {x : Str} {px : Pos} {Γc : List (Str × Dt)} {C : Addr} {X' : List Addr} {d : Dt} {v : Value} (kd : scope.kind = .function) (hx : scope.names.lookup x = some .local) (ha : apart Γc x = true)
    (s' : Shared) (F : Fs w (cEnv scope e C) X' Ow Γc s') (hi : Is s'.heap X' d v) :
    wpAny (model pw w) A (PySem.assign (.Name x px) (cEnv scope e C) v) (fun _ s₂ => Fs w (cEnv scope e C) X' Ow ([(x, d)] ++ Γc) s₂ ∧ Kw [C] s' s₂) Bot s' := by
  refine wpAny_assign_Name (F.storeL (by exact kd) hi (lookup_relabel_local hx) fun s₂ G k => ⟨?_, k⟩)
  rw [upd_apart ha] at G
  exact G
theorem bind_tup {scope : Scope} {elts : List Expr} {k : Nat} {tp : Pos} {Γc : List (Str × Dt)} {C : Addr} {X' : List Addr} {ds : List Dt} {v : Value} (hh : A.handled = none) (kd : scope.kind = .function) (hx : (namesOf elts).all (fun n => scope.names.lookup n.1 == some .local) = true)
    (hl : (namesOf elts).length = ds.length)
    (s' : Shared) (F : Fs w (cEnv scope e C) X' Ow Γc s') (hi : Is s'.heap X' (.tup ds) v)
    (he : (assignEach elts (cEnv scope e C)).map (·.2) = (namesOf elts).map fun n => PySem.assign (.Name n.1 n.2) (cEnv scope e C)) (hst : (assignEach elts (cEnv scope e C)).findIdx? (·.1) = none) :
    wpAny (model pw w) A (PySem.assign (.Tuple elts k tp) (cEnv scope e C) v) (fun _ s₂ => Fs w (cEnv scope e C) X' Ow (updAll Γc (((namesOf elts).map (·.1)).zip ds)) s₂ ∧ Kw [C] s' s₂) Bot s' :=
  F.unpackL hh kd hi (fun n hn => lookup_relabel_local (by have := List.all_eq_true.mp hx n hn; simpa using this)) hl (fun s₂ G k => ⟨G, k⟩) he hst
theorem EvT.cmp {l r : Expr} {op : CmpOp} {p : Pos} {d₁ d₂ : Dt} {b : Bool} (o : Op2 w A X (compareOp op) d₁ d₂ (.bool b)) (hl : Ev w A e X Ow Γ l d₁) (hr : Ev w A e X Ow Γ r d₂) (hm : behindInMarks op r = false := by rfl) : EvT w A e X Ow Γ (.Compare l [op] [r] p) b := .mk fun s c =>
  wpAny_isTrue_Compare1 (hl.use c fun a s₁ k₁ c₁ i₁ => hr.use c₁ fun y s₂ k₂ c₂ i₂ => wpb (o.h s₂ a y c₂.tk c₂.wd c₂.xin (i₁.keep k₂.ext) i₂) fun v s₃ ⟨k₃, i₃⟩ => by
    simp only [Is] at i₃
    subst i₃
    exact wpAny_truthy_bool ⟨(k₁.trans k₂).trans k₃, rfl⟩) hm
end
end Mine

namespace Mine
open PySem PySem.W PyProof.Rows PySem.SeqAt

/-! ## the environment of a def, its names' kinds told by a list -/
structure Fe (en : List (Str × NameKind)) (e : Env) : Prop where
  g : GEnv e
  kd : ∀ x k, en.lookup x = some k → e.kindOf x = some k
  ce : ∀ x, e.kindOf x = some .cell → ∃ c, e.cells.lookup x = some c
theorem Fe.of {P : Params} {fa L : Addr} {fd : FuncData} {body : List Stmt} (f : FnAt P fa fd body) : Fe fd.scope.names (callEnvC fd L fa) :=
  ⟨f.genv, fun x k h => h, fun x h => Option.isSome_iff_exists.mp (cellsFrom_some _ _ _ (.inl h))⟩
theorem Fe.hk {en : List (Str × NameKind)} {e : Env} (f : Fe en e) : e.scope.kind = .function := f.g.k
theorem Fe.st {en : List (Str × NameKind)} {e : Env} (f : Fe en e) {l : List (Str × Pos)} (h : l.all (fun n => (en.lookup n.1 == some .local || en.lookup n.1 == some .cell) && !(n.1 == ("__classdict__" : Str))) = true) : ∀ n ∈ l, Stores e n.1 := fun n hn => by
  have := List.all_eq_true.mp h n hn
  simp only [Bool.and_eq_true, Bool.or_eq_true, beq_iff_eq, Bool.not_eq_true'] at this
  rcases this.1 with q | q
  · exact ⟨.inl (f.kd _ _ q), this.2⟩
  · exact ⟨.inr ⟨f.kd _ _ q, f.ce _ (f.kd _ _ q)⟩, this.2⟩
theorem Fe.loc {en : List (Str × NameKind)} {e : Env} (f : Fe en e) {x : Str} (h : en.lookup x = some .local ∨ en.lookup x = some .cell) : e.kindOf x = some .local ∨ (e.kindOf x = some .cell ∧ ∃ c, e.cells.lookup x = some c) := by
  rcases h with q | q
  · exact .inl (f.kd _ _ q)
  · exact .inr ⟨f.kd _ _ q, f.ce _ (f.kd _ _ q)⟩

noncomputable def nodupB : List Str → Bool
  | [] => true
  | x :: r => !r.contains x && nodupB r
theorem nodup_of : ∀ {l : List Str}, nodupB l = true → l.Nodup
  | [], _ => .nil
  | x :: r, h => by
    simp only [nodupB, Bool.and_eq_true, Bool.not_eq_true'] at h
    refine List.nodup_cons.mpr ⟨fun hm => ?_, nodup_of h.2⟩
    have := List.contains_iff_mem.mpr hm
    rw [this] at h; exact absurd h.1 (by simp)
noncomputable def isFn : ScopeKind → Bool
  | .function => true
  | _ => false
/-- all that a comprehension's names must satisfy -/
noncomputable def compChk (en : List (Str × NameKind)) (scope : Scope) (cs xs : List Str) : Bool :=
  isFn scope.kind && nodupB (scope.names.map (·.1)) && scope.names.all (fun x => x.2 != .cell && (x.2 != .free || en.lookup x.1 == some .cell)) &&
    scope.names.all (fun x => x.2 != .local || scope.names.lookup x.1 == some .local) && cs.all (fun c => scope.names.lookup c == some .free && en.lookup c == some .cell) &&
    xs.all (fun x => scope.names.lookup x == some .local && !cs.contains x) && nodupB xs
structure CompFacts (e : Env) (scope : Scope) (cs xs : List Str) : Prop where
  ok : CompOk scope e
  hn : ∀ x ∈ scope.names, x.2 = .local → scope.names.lookup x.1 = some .local
  hc : ∀ c ∈ cs, scope.names.lookup c = some .free ∧ e.kindOf c ≠ some .local
  hx : ∀ x ∈ xs, scope.names.lookup x = some .local ∧ x ∉ cs
  nx : xs.Nodup
theorem Fe.comp {en : List (Str × NameKind)} {e : Env} (f : Fe en e) {scope : Scope} {cs xs : List Str} (h : compChk en scope cs xs = true) : CompFacts e scope cs xs := by
  simp only [compChk, Bool.and_eq_true] at h
  obtain ⟨⟨⟨⟨⟨⟨h1, h2⟩, h3⟩, h4⟩, h5⟩, h6⟩, h7⟩ := h
  have kd : scope.kind = .function := by revert h1; cases scope.kind <;> simp [isFn]
  refine ⟨⟨kd, fun x hx q => ?_, nodup_of h2, fun x hx q => f.ce _ (f.kd _ _ ?_)⟩, fun x hx q => ?_, fun c hc => ?_, fun x hx => ?_, nodup_of h7⟩
  · have := List.all_eq_true.mp h3 x hx
    simp [q] at this
  · have := List.all_eq_true.mp h3 x hx
    simp [q] at this
    exact this
  · have := List.all_eq_true.mp h4 x hx
    simp [q] at this
    exact this
  · have := List.all_eq_true.mp h5 c hc
    simp only [Bool.and_eq_true, beq_iff_eq] at this
    refine ⟨this.1, ?_⟩
    rw [f.kd _ _ this.2]; simp
  · have := List.all_eq_true.mp h6 x hx
    simp only [Bool.and_eq_true, beq_iff_eq, Bool.not_eq_true'] at this
    refine ⟨this.1, fun hm => ?_⟩
    have := List.contains_iff_mem.mpr hm
    simp_all

theorem updAll_old : ∀ (l Γ : List (Str × Dt)) (p : Str × Dt), p ∈ Γ → p.1 ∉ l.map (·.1) → p ∈ updAll Γ l
  | [], Γ, p, h, _ => h
  | (x, d) :: r, Γ, p, h, hn => by
    simp only [List.map_cons, List.mem_cons, not_or] at hn
    refine updAll_old r _ p (List.mem_cons_of_mem _ (List.mem_filter.mpr ⟨h, ?_⟩)) hn.2
    simpa using hn.1
theorem updAll_new : ∀ (l Γ : List (Str × Dt)), (l.map (·.1)).Nodup → ∀ p ∈ l, p ∈ updAll Γ l
  | [], _, _, p, h => by cases h
  | (x, d) :: r, Γ, nd, p, h => by
    simp only [List.map_cons, List.nodup_cons] at nd
    rcases List.mem_cons.mp h with rfl | h
    · exact updAll_old r _ _ List.mem_cons_self nd.1
    · exact updAll_new r _ nd.2 p h

section
variable {w : World} {A : Around} {s₀ : Shared} {Mu : List Addr} {en : List (Str × NameKind)} {e : Env} {X : List Addr} {Ow : Owns} {Γ : List (Str × Dt)} {s : Shared}

theorem kind_glob {scope : Scope} {e : Env} {C : Addr} : ∀ x, scope.names.lookup x = some .globalImplicit → (cEnv scope e C).kindOf x = some .globalImplicit := fun x h => by
  have : ∀ {names : List (Str × NameKind)} {x : Str}, names.lookup x = some .globalImplicit →
      (names.map fun (n, k) => if (k == NameKind.free && e.scope.kind == .function && e.kindOf n == some .cell) then (n, NameKind.cell) else (n, k)).lookup x = some .globalImplicit := by
    intro names
    induction names with
    | nil => intro x h; simp at h
    | cons p r ih =>
      obtain ⟨n, k⟩ := p
      intro x h
      rw [List.map_cons]
      dsimp only
      cases hx : x == n with
      | true =>
        simp only [List.lookup_cons, hx] at h
        cases h
        rw [if_neg (by simp)]
        simp [List.lookup_cons, hx]
      | false =>
        simp only [List.lookup_cons, hx] at h
        have e1 : ∀ (k' : NameKind) (l : List (Str × NameKind)), List.lookup x ((n, k') :: l) = List.lookup x l := fun k' l => by simp only [List.lookup_cons, hx]
        by_cases hc : (k == NameKind.free && e.scope.kind == .function && e.kindOf n == some .cell) = true
        · rw [if_pos hc, e1]; exact ih h
        · rw [if_neg hc, e1]; exact ih h
  exact this h
/-- what an expression in a comprehension may lean on -/
noncomputable abbrev InComp (scope : Scope) (e' : Env) : Prop := GEnv e' ∧ ∀ x, scope.names.lookup x = some .globalImplicit → e'.kindOf x = some .globalImplicit

/-- one name, no test -/
theorem Ev.comp1 {elt iter : Expr} {x : Str} {px : Pos} {scope : Scope} {pos : Pos} {src : List Dt} {own : Bool} (Γc : List (Str × Dt)) (g : Dt → Dt) {l : List Dt} (f : Fe en e)
    (chk : compChk en scope (Γc.map (·.1)) [x] = true) (hit : EvIt w A e X Ow Γ (.Name x px) iter own src) (hlen : src.length ≤ sizeLine) (hΓ : AllHas Γc Γ)
    (elts : ∀ e' X', InComp scope e' → (∀ a ∈ X, a ∈ X') → ∀ d ∈ src, Ev w A e' X' Ow ((x, d) :: Γc) elt (g d)) (hl : src.map g = l)
    (hs : ∀ x, foldedSetIterable iter e x = pure x := by intro _; rfl) :
    Ev w A e X Ow Γ (.ListComp elt [⟨.Name x px, iter, [], 0⟩] scope pos) (.lst l) := by
  have c := f.comp chk
  have hx := c.hx x (by simp)
  have ha : Mine.apart Γc x = true := by
    refine List.all_eq_true.mpr fun p hp => ?_
    have : p.1 ≠ x := fun q => hx.2 (q ▸ List.mem_map_of_mem hp)
    simpa using this
  have := Ev.comp (w := w) (A := A) (X := X) (Ow := Ow) (Γ := Γ) (pos := pos) (elt := elt) (ifs := []) (Γc := Γc) (Γd := fun d => [(x, d)]) (p := fun _ => true) (g := g) c.ok c.hn hit hlen
    (fun q hq => ⟨hΓ.sub q hq, (c.hc _ (List.mem_map_of_mem hq)).1, (c.hc _ (List.mem_map_of_mem hq)).2⟩)
    (fun C X' _ d _ s' v F hi => bind_name c.ok.kd hx.1 ha s' F hi) (fun C X' _ d _ s' cx => tests_none s' cx)
    (fun C X' hX d hd _ => elts _ X' ⟨f.g.comp c.ok.kd C, kind_glob⟩ hX d hd) hs
  rw [← hl]
  rw [List.filter_eq_self.mpr (fun _ _ => rfl)] at this
  exact this
/-- one name, one test -/
theorem Ev.comp1T {elt iter test : Expr} {x : Str} {px : Pos} {scope : Scope} {pos : Pos} {src : List Dt} {own : Bool} (Γc : List (Str × Dt)) (p : Dt → Bool) (g : Dt → Dt) {l : List Dt} (f : Fe en e)
    (chk : compChk en scope (Γc.map (·.1)) [x] = true) (hit : EvIt w A e X Ow Γ (.Name x px) iter own src) (hlen : src.length ≤ sizeLine) (hΓ : AllHas Γc Γ)
    (tests : ∀ e' X', InComp scope e' → (∀ a ∈ X, a ∈ X') → ∀ d ∈ src, EvT w A e' X' Ow ((x, d) :: Γc) test (p d))
    (elts : ∀ e' X', InComp scope e' → (∀ a ∈ X, a ∈ X') → ∀ d ∈ src, p d = true → Ev w A e' X' Ow ((x, d) :: Γc) elt (g d)) (hl : (src.filter p).map g = l)
    (hs : ∀ x, foldedSetIterable iter e x = pure x := by intro _; rfl) :
    Ev w A e X Ow Γ (.ListComp elt [⟨.Name x px, iter, [test], 0⟩] scope pos) (.lst l) := by
  have c := f.comp chk
  have hx := c.hx x (by simp)
  have ha : Mine.apart Γc x = true := by
    refine List.all_eq_true.mpr fun p hp => ?_
    have : p.1 ≠ x := fun q => hx.2 (q ▸ List.mem_map_of_mem hp)
    simpa using this
  rw [← hl]
  exact Ev.comp (w := w) (A := A) (X := X) (Ow := Ow) (Γ := Γ) (pos := pos) (elt := elt) (ifs := [test]) (Γc := Γc) (Γd := fun d => [(x, d)]) (p := p) (g := g) c.ok c.hn hit hlen
    (fun q hq => ⟨hΓ.sub q hq, (c.hc _ (List.mem_map_of_mem hq)).1, (c.hc _ (List.mem_map_of_mem hq)).2⟩)
    (fun C X' _ d _ s' v F hi => bind_name c.ok.kd hx.1 ha s' F hi) (fun C X' hX d hd s' cx => tests_one (tests _ X' ⟨f.g.comp c.ok.kd C, kind_glob⟩ hX d hd) s' cx)
    (fun C X' hX d hd hp => elts _ X' ⟨f.g.comp c.ok.kd C, kind_glob⟩ hX d hd hp) hs
/-- a name is given a list over one name -/
theorem Fn.assignComp1 {y : Str} {elt iter : Expr} {x : Str} {px py : Pos} {scope : Scope} {pos spos : Pos} {src : List Dt} {own : Bool} (Γc : List (Str × Dt)) (g : Dt → Dt) {l : List Dt} {Q : Flow → Shared → Prop} {E : Value → Shared → Prop}
    (F : Fn w s₀ Mu e X Ow Γ s) (f : Fe en e)
    (chk : compChk en scope (Γc.map (·.1)) [x] = true) (hit : EvIt w A e X Ow Γ (.Name x px) iter own src) (hlen : src.length ≤ sizeLine) (hΓ : AllHas Γc Γ)
    (elts : ∀ e' X', InComp scope e' → (∀ a ∈ X, a ∈ X') → ∀ d ∈ src, Ev w A e' X' Ow ((x, d) :: Γc) elt (g d)) (hl : src.map g = l)
    (hy : en.lookup y = some .local) (h : ∀ s', Fn w s₀ Mu e X Ow (upd Γ y (.lst l)) s' → Q .next s')
    (hsw : swapsWith (.ListComp elt [⟨.Name x px, iter, [], 0⟩] scope pos) (some (.Name y py)) spos.line e = pure true := by rfl)
    (hs : ∀ x, foldedSetIterable iter e x = pure x := by intro _; rfl) (hcd : (y == ("__classdict__" : Str)) = false := by rfl) :
    Wp w A (exec (.Assign [.Name y py] (.ListComp elt [⟨.Name x px, iter, [], 0⟩] scope pos) spos) e) Q E s := by
  have c := f.comp chk
  have hx := c.hx x (by simp)
  have ha : Mine.apart Γc x = true := by
    refine List.all_eq_true.mpr fun p hp => ?_
    have : p.1 ≠ x := fun q => hx.2 (q ▸ List.mem_map_of_mem hp)
    simpa using this
  refine F.assignComp (ifs := []) (Γc := Γc) (Γd := fun d => [(x, d)]) (p := fun _ => true) (g := g) c.ok c.hn hit hlen
    (fun q hq => ⟨hΓ.sub q hq, (c.hc _ (List.mem_map_of_mem hq)).1, (c.hc _ (List.mem_map_of_mem hq)).2⟩)
    (fun C X' _ d _ s' v F hi => bind_name c.ok.kd hx.1 ha s' F hi) (fun C X' _ d _ s' cx => tests_none s' cx)
    (fun C X' hX d hd _ => elts _ X' ⟨f.g.comp c.ok.kd C, kind_glob⟩ hX d hd) f.hk (f.kd _ _ hy) (fun s' G => h s' ?_) hsw hs hcd
  rw [← hl]
  rw [List.filter_eq_self.mpr (fun _ _ => rfl)] at G
  exact G
/-- a tuple of names, at most one test -/
theorem bindT {elts : List Expr} {k : Nat} {tp : Pos} {scope : Scope} {Γc : List (Str × Dt)} {fd : Dt → List Dt} (f : Fe en e) (hh : A.handled = Option.none)
    (c : CompFacts e scope (Γc.map (·.1)) ((namesOf elts).map (·.1))) {C : Addr} {X' : List Addr} {d : Dt} (hd : d = .tup (fd d) ∧ (fd d).length = (namesOf elts).length) (s' : Shared) (v : Value) (F : Fs w (cEnv scope e C) X' Ow Γc s') (hi : Is s'.heap X' d v)
    (he : (assignEach elts (cEnv scope e C)).map (·.2) = (namesOf elts).map fun n => PySem.assign (.Name n.1 n.2) (cEnv scope e C)) (hst : (assignEach elts (cEnv scope e C)).findIdx? (·.1) = Option.none) :
    wpAny (model pw w) A (PySem.assign (.Tuple elts k tp) (cEnv scope e C) v) (fun _ s₂ => Fs w (cEnv scope e C) X' Ow ((((namesOf elts).map (·.1)).zip (fd d)) ++ Γc) s₂ ∧ Kw [C] s' s₂) Bot s' := by
  have hz : ((((namesOf elts).map (·.1)).zip (fd d)).map (·.1)) = (namesOf elts).map (·.1) := by rw [List.map_fst_zip]; simp [hd.2]
  rw [hd.1] at hi
  refine wpb (bind_tup (elts := elts) (k := k) (tp := tp) hh c.ok.kd ?_ hd.2.symm s' F hi he hst) fun _ s₂ ⟨G, kw⟩ => ⟨G.weaken fun p hp => ?_, kw⟩
  · refine List.all_eq_true.mpr fun n hn => ?_
    have := (c.hx n.1 (List.mem_map_of_mem hn)).1
    simpa using this
  · rcases List.mem_append.mp hp with hp | hp
    · exact updAll_new _ _ (by rw [hz]; exact c.nx) p hp
    · refine updAll_old _ _ p hp ?_
      rw [hz]
      exact fun hm => (c.hx _ hm).2 (List.mem_map_of_mem hp)
theorem Ev.compT {elt iter : Expr} {elts' : List Expr} {k : Nat} {tp : Pos} {scope : Scope} {pos : Pos} {src : List Dt} {own : Bool} (Γc : List (Str × Dt)) (fd : Dt → List Dt) (g : Dt → Dt) {l : List Dt} (f : Fe en e) (hh : A.handled = Option.none)
    (chk : compChk en scope (Γc.map (·.1)) ((namesOf elts').map (·.1)) = true) (hit : EvIt w A e X Ow Γ (.Tuple elts' k tp) iter own src) (hlen : src.length ≤ sizeLine) (hΓ : AllHas Γc Γ)
    (hfd : ∀ d ∈ src, d = .tup (fd d) ∧ (fd d).length = (namesOf elts').length)
    (elts : ∀ e' X', InComp scope e' → (∀ a ∈ X, a ∈ X') → ∀ d ∈ src, Ev w A e' X' Ow ((((namesOf elts').map (·.1)).zip (fd d)) ++ Γc) elt (g d)) (hl : src.map g = l)
    (he : ∀ C, (assignEach elts' (cEnv scope e C)).map (·.2) = (namesOf elts').map fun n => PySem.assign (.Name n.1 n.2) (cEnv scope e C) := by intro _; rfl) (hst : ∀ C, (assignEach elts' (cEnv scope e C)).findIdx? (·.1) = Option.none := by intro _; rfl)
    (hs : ∀ x, foldedSetIterable iter e x = pure x := by intro _; rfl) :
    Ev w A e X Ow Γ (.ListComp elt [⟨.Tuple elts' k tp, iter, [], 0⟩] scope pos) (.lst l) := by
  have c := f.comp chk
  have := Ev.comp (w := w) (A := A) (X := X) (Ow := Ow) (Γ := Γ) (pos := pos) (elt := elt) (ifs := []) (Γc := Γc) (Γd := fun d => (((namesOf elts').map (·.1)).zip (fd d))) (p := fun _ => true) (g := g) c.ok c.hn hit hlen
    (fun q hq => ⟨hΓ.sub q hq, (c.hc _ (List.mem_map_of_mem hq)).1, (c.hc _ (List.mem_map_of_mem hq)).2⟩)
    (fun C X' _ d hd s' v F hi => bindT f hh c (hfd d hd) s' v F hi (he C) (hst C)) (fun C X' _ d _ s' cx => tests_none s' cx)
    (fun C X' hX d hd _ => elts _ X' ⟨f.g.comp c.ok.kd C, kind_glob⟩ hX d hd) hs
  rw [← hl]
  rw [List.filter_eq_self.mpr (fun _ _ => rfl)] at this
  exact this
theorem Fn.assignCompT {y : Str} {elt iter test : Expr} {elts' : List Expr} {k : Nat} {tp : Pos} {py : Pos} {scope : Scope} {pos spos : Pos} {src : List Dt} {own : Bool} (Γc : List (Str × Dt)) (fd : Dt → List Dt) (p : Dt → Bool) (g : Dt → Dt) {l : List Dt} {Q : Flow → Shared → Prop} {E : Value → Shared → Prop}
    (F : Fn w s₀ Mu e X Ow Γ s) (f : Fe en e) (hh : A.handled = Option.none)
    (chk : compChk en scope (Γc.map (·.1)) ((namesOf elts').map (·.1)) = true) (hit : EvIt w A e X Ow Γ (.Tuple elts' k tp) iter own src) (hlen : src.length ≤ sizeLine) (hΓ : AllHas Γc Γ)
    (hfd : ∀ d ∈ src, d = .tup (fd d) ∧ (fd d).length = (namesOf elts').length)
    (tests : ∀ e' X', InComp scope e' → (∀ a ∈ X, a ∈ X') → ∀ d ∈ src, EvT w A e' X' Ow ((((namesOf elts').map (·.1)).zip (fd d)) ++ Γc) test (p d))
    (elts : ∀ e' X', InComp scope e' → (∀ a ∈ X, a ∈ X') → ∀ d ∈ src, p d = true → Ev w A e' X' Ow ((((namesOf elts').map (·.1)).zip (fd d)) ++ Γc) elt (g d)) (hl : (src.filter p).map g = l)
    (hy : en.lookup y = some .local) (h : ∀ s', Fn w s₀ Mu e X Ow (upd Γ y (.lst l)) s' → Q .next s')
    (he : ∀ C, (assignEach elts' (cEnv scope e C)).map (·.2) = (namesOf elts').map fun n => PySem.assign (.Name n.1 n.2) (cEnv scope e C) := by intro _; rfl) (hst : ∀ C, (assignEach elts' (cEnv scope e C)).findIdx? (·.1) = Option.none := by intro _; rfl)
    (hsw : swapsWith (.ListComp elt [⟨.Tuple elts' k tp, iter, [test], 0⟩] scope pos) (some (.Name y py)) spos.line e = pure true := by rfl)
    (hs : ∀ x, foldedSetIterable iter e x = pure x := by intro _; rfl) (hcd : (y == ("__classdict__" : Str)) = false := by rfl) :
    Wp w A (exec (.Assign [.Name y py] (.ListComp elt [⟨.Tuple elts' k tp, iter, [test], 0⟩] scope pos) spos) e) Q E s := by
  have c := f.comp chk
  refine F.assignComp (ifs := [test]) (Γc := Γc) (Γd := fun d => (((namesOf elts').map (·.1)).zip (fd d))) (p := p) (g := g) c.ok c.hn hit hlen
    (fun q hq => ⟨hΓ.sub q hq, (c.hc _ (List.mem_map_of_mem hq)).1, (c.hc _ (List.mem_map_of_mem hq)).2⟩)
    (fun C X' _ d hd s' v F hi => bindT f hh c (hfd d hd) s' v F hi (he C) (hst C)) (fun C X' hX d hd s' cx => tests_one (tests _ X' ⟨f.g.comp c.ok.kd C, kind_glob⟩ hX d hd) s' cx)
    (fun C X' hX d hd hp => elts _ X' ⟨f.g.comp c.ok.kd C, kind_glob⟩ hX d hd hp) f.hk (f.kd _ _ hy) (fun s' G => h s' ?_) hsw hs hcd
  rw [← hl]
  exact G
theorem EvT.eq {ex : Expr} {b c : Bool} (h : EvT w A e X Ow Γ ex b) (hb : b = c) : EvT w A e X Ow Γ ex c := hb ▸ h
theorem Ev.eq {ex : Expr} {b c : Dt} (h : Ev w A e X Ow Γ ex b) (hb : b = c) : Ev w A e X Ow Γ ex c := hb ▸ h
theorem Cx.tkp (c : Cx w e X Ow Γ s) : 0 < s.toks := c.tk
end
end Mine

namespace Mine
open PySem PySem.W PyProof.Rows PySem.SeqAt

section
variable {w : World} {A : Around} {s₀ : Shared} {Mu : List Addr} {e : Env} {X : List Addr} {Ow : Owns} {Γ : List (Str × Dt)} {s : Shared}

/-- a try whose body raises nothing -/
theorem Fn.try_ {body orelse : List Stmt} {h₀ : ExceptHandler} {hs : List ExceptHandler} {pos : Pos} {Q : Flow → Shared → Prop} {E : Value → Shared → Prop}
    (h : Wp w A (execs body e) (fun f s₁ => match f with | .next => Wp w A (execs orelse e) Q Bot s₁ | f => Q f s₁) Bot s) :
    Wp w A (exec (.Try body (h₀ :: hs) orelse [] pos) e) Q E s := .mk <| by
  show wpAny _ _ (do standAt pos; tryStmt false (execs body e) (h₀ :: hs) (execs orelse e) [] e) _ _ _
  refine wpAny_bind (wpAny_standAt (wpAny_tryStmt_except (wpAny_mono h.p (fun f s₁ q => ?_) fun _ _ x => x.elim)))
  cases f with
  | next => exact wpb q.p fun _ _ x => x
  | brk => exact q
  | cont => exact q
  | ret v => exact q
end
end Mine

namespace Mine
open PySem PySem.W PyProof.Rows PySem.SeqAt

section
variable {w : World} {A : Around} {s₀ : Shared} {Mu : List Addr} {e : Env} {X : List Addr} {Ow : Owns} {Γ : List (Str × Dt)} {s : Shared}

/-- a list that stands and is seen by nothing else becomes the frame's own -/
theorem Fn.adopt {a : Addr} {ds : List Dt} {vs : List Value} {s' : Shared} (F : Fn w s₀ Mu e X Ow Γ s) (k : Kp s s') (hn : s.heap.get? a = Option.none) (hl : s'.heap.PlainList a vs.toArray) (hi : IsAll s'.heap (a :: X) ds vs) :
    Fn w s₀ Mu e (a :: X) ((a, ds) :: Ow) Γ s' := by
  have G := F.kp k
  have out : ∀ b o, b ∉ X → s.heap.get? b = some o → s'.heap.get? b = some o ∧ b ∉ a :: X := fun b o hb ho => ⟨k.ext b o ho, fun hm => by
    rcases List.mem_cons.mp hm with rfl | hm
    · rw [hn] at ho; cases ho
    · exact hb hm⟩
  refine { wd := G.wd, xin := fun b hb => ?_, ow := fun p hp => ?_, vars := fun p hp => ?_, cl := G.cl, cx := fun p hp => List.mem_cons_of_mem _ (G.cx p hp), ap := G.ap, wc := G.wc, tk := G.tk, ns := G.ns, lx := List.mem_cons_of_mem _ G.lx, wl := G.wl, tk0 := G.tk0, same := G.same, keep0 := G.keep0, lm := G.lm, oo := fun p hp => ?_ }
  · rcases List.mem_cons.mp hb with rfl | hb
    · obtain ⟨n, h⟩ := hl; exact ⟨_, h⟩
    · exact G.xin b hb
  · rcases List.mem_cons.mp hp with rfl | hp
    · exact ⟨List.mem_cons_self, vs, hl, hi⟩
    · obtain ⟨x, us, b, c⟩ := F.ow p hp
      exact ⟨List.mem_cons_of_mem _ x, us, b.at fun o h => k.ext _ o h, c.ext out⟩
  · obtain ⟨v, x, y⟩ := F.vars p hp
    exact ⟨v, x.keep k.ext, y.ext out⟩
  · rcases List.mem_cons.mp hp with rfl | hp
    · dsimp only
      by_cases q : a ∈ Mu
      · exact .inl q
      · refine .inr ?_
        cases q' : s₀.heap.get? a with
        | none => rfl
        | some o => have := F.keep0 a o q q'; rw [hn] at this; cases this
    · exact G.oo p hp
/-- x = [..]: the new list is the frame's own -/
theorem Fn.newOwnL {x : Str} {es : List Expr} {ds : List Dt} {p px pos : Pos} {Q : Flow → Shared → Prop} {E : Value → Shared → Prop} (F : Fn w s₀ Mu e X Ow Γ s) (hk : e.scope.kind = .function) (he : EvAll w A e X Ow Γ p es ds) (hs : ds.length ≤ sizeLine)
    (hx : e.kindOf x = some .local ∨ (e.kindOf x = some .cell ∧ ∃ c, e.cells.lookup x = some c))
    (h : ∀ a s', a ∉ X → (KK w.params).lookup a = Option.none → Fn w s₀ Mu e (a :: X) ((a, ds) :: Ow) (upd Γ x (.own a)) s' → Q .next s') (hcd : (x == ("__classdict__" : Str)) = false := by rfl)
    (hsw : swapsWith (.List es p) (some (.Name x px)) pos.line e = pure false := by rfl) : Wp w A (exec (.Assign [.Name x px] (.List es p) pos) e) Q E s := .mk <| by
  refine wpAny_Assign_Name (wpAny_List (wpb (he.h s F.toCx) fun vs s₁ ⟨k₁, i₁⟩ => ⟨by rw [i₁.length]; exact hs, ?_⟩)) hsw
  have F₁ := F.kp k₁
  have hn := size_none s₁.heap
  have hnX : s₁.heap.objs.size ∉ X := Xin.new F₁.xin
  have G := F₁.adopt (a := s₁.heap.objs.size) (vs := vs) (ds := ds) (Kp.push s₁ { cls := .type "list", data := .seq vs.toArray }) hn ⟨_, get_push _ _⟩
    (i₁.ext fun b o hb ho => ⟨Heap.get?_push_of_some _ ho, fun hm => by
      rcases List.mem_cons.mp hm with rfl | hm
      · rw [hn] at ho; cases ho
      · exact hb hm⟩)
  refine G.store hk (d := .own s₁.heap.objs.size) (by simp only [Is]) hx hcd fun s' G => h _ s' hnX ?_ G
  cases q : (KK w.params).lookup s₁.heap.objs.size with
  | none => rfl
  | some o => have := F₁.wd _ o q; rw [hn] at this; cases this
theorem Fn.newOwn {x : Str} {p px pos : Pos} {Q : Flow → Shared → Prop} {E : Value → Shared → Prop} (F : Fn w s₀ Mu e X Ow Γ s) (hk : e.scope.kind = .function)
    (hx : e.kindOf x = some .local ∨ (e.kindOf x = some .cell ∧ ∃ c, e.cells.lookup x = some c))
    (h : ∀ a s', a ∉ X → (KK w.params).lookup a = Option.none → Fn w s₀ Mu e (a :: X) ((a, []) :: Ow) (upd Γ x (.own a)) s' → Q .next s') (hcd : (x == ("__classdict__" : Str)) = false := by rfl)
    (hsw : swapsWith (.List [] p) (some (.Name x px)) pos.line e = pure false := by rfl) : Wp w A (exec (.Assign [.Name x px] (.List [] p) pos) e) Q E s :=
  F.newOwnL hk EvAll.nil (Nat.zero_le _) hx h hcd hsw
theorem swaps_ok {en : List (Str × NameKind)} {elt : Expr} {gens : List Comprehension} {scope : Scope} {pos py : Pos} {y : Str} {l : Nat} (f : Fe en e) (hy : en.lookup y = some .local)
    (h : (py.line == pos.line && !(scope.names.any fun (n, k) => n == y && (k == .local || k == .cell))) = true) : swapsWith (.ListComp elt gens scope pos) (some (.Name y py)) l e = pure true := by
  have hb : (e.blockKind == .function) = true := by unfold Env.blockKind; rw [f.hk]; rfl
  have h2 : (e.kindOf y == some .local) = true := by rw [f.kd _ _ hy]; rfl
  simp only [Bool.and_eq_true] at h
  show (pure (e.blockKind == .function && e.kindOf y == some .local && py.line == pos.line && !(scope.names.any fun (n, k) => n == y && (k == .local || k == .cell))) : Sem Bool) = pure true
  rw [hb, h2, h.1, h.2]; rfl
theorem execs_join {P : Shared → Prop} {st : Stmt} {rest : List Stmt} {Q : Flow → Shared → Prop} {E : Value → Shared → Prop} (h1 : Wp w A (exec st e) (fun f s' => f = .next ∧ P s') E s) (h2 : ∀ s', P s' → Wp w A (execs rest e) Q E s') : Wp w A (execs (st :: rest) e) Q E s :=
  execs_cons' ⟨wpAny_mono h1.p (fun f s' h => by obtain ⟨rfl, h⟩ := h; exact h2 s' h) fun _ _ h => h⟩
/-- behind the frame its own list is a list as any other -/
theorem Is.ofOwn {X' : List Addr} {a : Addr} {ds : List Dt} {v : Value} (F : Fn w s₀ Mu e X Ow Γ s) (ha : (a, ds) ∈ Ow) (hv : Is s.heap X (.own a) v) (hX : ∀ b ∈ X', b ∈ X) (haX : a ∉ X') : Is s.heap X' (.lst ds) v := by
  simp only [Is] at hv ⊢
  obtain ⟨_, vs, hl, hi⟩ := F.ow _ ha
  exact ⟨a, vs, hv, haX, hl, hi.less hX⟩
end
end Mine

namespace Mine
open PySem PySem.W

theorem nats_deqs : ∀ a b : List Nat, deqs (natsDt a) (natsDt b) = (a == b)
  | [], [] => rfl
  | [], b :: m => rfl
  | a :: l, [] => rfl
  | a :: l, b :: m => by
    have := nats_deqs l m
    unfold natsDt at this
    simp only [natsDt, List.map_cons, deqs, deq, this]
    show _ = (a == b && l == m)
    congr 1
    rw [Bool.eq_iff_iff]; simp
    omega
theorem nats_dkins (n : Nat) : ∀ a b : List Nat, dkins n (natsDt a) (natsDt b) = true
  | [], _ => by simp [natsDt, dkins]
  | a :: l, [] => by simp [natsDt, dkins]
  | a :: l, b :: m => by
    have := nats_dkins n l m
    unfold natsDt at this
    simp [natsDt, dkins, dkin, this]
theorem cut_take (l : List Dt) (k : Nat) : cut l none (some (k : Int)) = l.take k := by
  unfold cut
  have e : clipAt l.length ((k : Nat) : Int) = min k l.length := by
    unfold clipAt; split <;> omega
  simp only [Option.elim, e, List.drop_zero, Nat.sub_zero]
  rw [List.take_eq_take_iff]; omega
theorem cut_dropLast (l : List Dt) : cut l none (some (-1)) = l.dropLast := by
  unfold cut
  have e : clipAt l.length (-1) = l.length - 1 := by
    unfold clipAt; split <;> omega
  simp only [Option.elim, e, List.drop_zero, Nat.sub_zero]
  rw [List.dropLast_eq_take]
theorem natsDt_take (l : List Nat) (k : Nat) : (natsDt l).take k = natsDt (l.take k) := by
  unfold natsDt; rw [List.map_take]
theorem natsDt_dropLast (l : List Nat) : (natsDt l).dropLast = natsDt l.dropLast := by
  unfold natsDt; rw [List.map_dropLast]
theorem natsDt_len (l : List Nat) : (natsDt l).length = l.length := by simp [natsDt]
theorem natsDt_app (l m : List Nat) : natsDt l ++ natsDt m = natsDt (l ++ m) := by simp [natsDt]
noncomputable def lnsDt (ls : List Ln) : List Dt := ls.map Ln.dt
theorem lnsDt_len (l : List Ln) : (lnsDt l).length = l.length := by simp [lnsDt]
theorem lnsDt_app (l m : List Ln) : lnsDt l ++ lnsDt m = lnsDt (l ++ m) := by simp [lnsDt]
theorem lnsDt_at {ls : List Ln} {k : Nat} (h : k < ls.length) : (lnsDt ls)[k]? = some (lnAt ls k).dt := by
  unfold lnsDt lnAt
  rw [List.getElem?_map, List.getElem?_eq_getElem h, List.getD_eq_getElem?_getD, List.getElem?_eq_getElem h]
  rfl
noncomputable def lnTup : Dt → List Dt
  | .tup l => l
  | _ => []
noncomputable def lnBl : Dt → List Dt
  | .tup (.lst l :: _) => l
  | _ => []
noncomputable def lnF : Dt → Dt
  | .tup [_, f, _] => f
  | _ => .none
theorem usable_comp (ls : List Ln) (b : List Nat) : ((lnsDt ls).filter fun d => deqs ((natsDt b).take (lnBl d).length) (lnBl d)).map lnF = (usableOf ls b).map Fm.dt := by
  induction ls with
  | nil => rfl
  | cons l r ih =>
    have e1 : (deqs ((natsDt b).take (lnBl l.dt).length) (lnBl l.dt)) = fits b l := by
      show deqs ((natsDt b).take (natsDt l.bl).length) (natsDt l.bl) = _
      rw [natsDt_len, natsDt_take, nats_deqs]; rfl
    unfold lnsDt usableOf at *
    simp only [List.map_cons, List.filter_cons, e1]
    split
    · simp only [List.map_cons, ih]; rfl
    · exact ih
theorem usable_len (ls : List Ln) (b : List Nat) : (usableOf ls b).length ≤ ls.length := by
  unfold usableOf; rw [List.length_map]; exact List.length_filter_le _ _
theorem seqIndex_nat {k n : Nat} (h : k < n) : seqIndex? ((k : Nat) : Int) n = some k := by
  unfold seqIndex?
  simp; omega
theorem pick_ix {us : List Fm} (h : us ≠ []) (c : Int) : seqIndex? (c.fmod (us.map Fm.dt).length) (us.map Fm.dt).length = some (c.fmod us.length).toNat ∧ (us.map Fm.dt)[(c.fmod us.length).toNat]? = some (pickF us c).dt := by
  have hp := List.length_pos_iff.mpr h
  have h1 := Int.fmod_nonneg_of_pos c (b := us.length) (by omega)
  have h2 := Int.fmod_lt_of_pos c (b := us.length) (by omega)
  have h3 : (c.fmod us.length).toNat < us.length := by omega
  refine ⟨?_, ?_⟩
  · rw [List.length_map]
    have e : c.fmod us.length = (((c.fmod us.length).toNat : Nat) : Int) := by omega
    conv => lhs; rw [e]
    exact seqIndex_nat h3
  · unfold pickF
    rw [List.getElem?_map, List.getElem?_eq_getElem h3, List.getD_eq_getElem?_getD, List.getElem?_eq_getElem h3]; rfl
theorem ix3_at (c : Int) : seqIndex? (c.fmod 3) (3 : Nat) = some (ix3 c).val ∧ ("pqr" : Str).cps[(ix3 c).val]? = some (112 + (ix3 c).val) := by
  have h1 := Int.fmod_nonneg_of_pos c (b := 3) (by decide)
  have h2 := Int.fmod_lt_of_pos c (b := 3) (by decide)
  have e : c.fmod 3 = (((ix3 c).val : Nat) : Int) := by show _ = (((c.fmod 3).toNat : Nat) : Int); omega
  refine ⟨by rw [e]; exact seqIndex_nat (ix3 c).isLt, ?_⟩
  have : ∀ i : Fin 3, ("pqr" : Str).cps[i.val]? = some (112 + i.val) := by decide
  exact this _
theorem last_ix {b : List Nat} (h : b ≠ []) : seqIndex? (-1) (natsDt b).length = some (b.length - 1) ∧ (natsDt b)[b.length - 1]? = some (.int (b.getLastD 0 : Nat)) := by
  have hp := List.length_pos_iff.mpr h
  refine ⟨?_, ?_⟩
  · rw [natsDt_len]; unfold seqIndex?; simp; omega
  · unfold natsDt
    rw [List.getElem?_map, List.getElem?_eq_getElem (by omega), List.getLastD_eq_getLast?, List.getLast?_eq_some_getLast h, List.getLast_eq_getElem]
    rfl
theorem last_lx {l : List Dt} (h : l ≠ []) : seqIndex? (-1) l.length = some (l.length - 1) := by
  have hp := List.length_pos_iff.mpr h
  unfold seqIndex?; simp; omega
end Mine

namespace Mine
open PySem PySem.W PyProof.Rows PySem.SeqAt

section
variable {w : World} {A : Around} {s₀ : Shared} {Mu : List Addr} {en : List (Str × NameKind)} {e : Env} {X : List Addr} {Ow : Owns} {Γ : List (Str × Dt)} {s : Shared}

theorem swapped2 {x y : Str} {px py tp p' : Pos} {k k' : Nat} {v₁ v₂ : Expr} (f : Fe en e) (hx : en.lookup x = some .local) (hy : en.lookup y = some .local) (hl : (py.line == px.line) = true) (hne : (y == x) = false)
    (hs : ([v₁, v₂].any fun | .Starred .. => true | _ => false) = false) (hf : [v₁, v₂].all (foldedForSure 8) = false) (hc : [v₁, v₂].all (constantsAlone 8) = false) :
    swappedStores [.Tuple [.Name x px, .Name y py] k tp] (.Tuple [v₁, v₂] k' p') e = pure (some [x, y]) := by
  have hb : (e.blockKind == .function) = true := by unfold Env.blockKind; rw [f.hk]; rfl
  have h1 : (e.kindOf x == some .local) = true := by rw [f.kd _ _ hx]; rfl
  have h2 : (e.kindOf y == some .local) = true := by rw [f.kd _ _ hy]; rfl
  have hb' : (e.blockKind != .function) = false := by rw [bne, hb]; rfl
  unfold swappedStores
  dsimp only
  refine (if_neg (by simp [hb'])).trans ?_
  refine (if_neg fun hh => Bool.noConfusion (hs.symm.trans hh)).trans ?_
  have hd : [x, y].eraseDups = [x, y] := by
    simp [List.eraseDups_cons, hne]
  have q1 := f.kd _ _ hx
  have q2 := f.kd _ _ hy
  have q3 : py.line = px.line := by simpa using hl
  have q4 : ∀ (z : Str) (p : Pos), (Expr.Name z p).pos = p := fun _ _ => rfl
  refine (if_neg (by simp [List.filterMap_cons, q1, q2, q3, q4, hd])).trans ?_
  refine (if_neg (by rw [hf]; decide)).trans ?_
  refine (if_neg (by rw [hc]; decide)).trans ?_
  simp [List.filterMap_cons, q1, q2, q3, q4]
theorem Fe.inter (f : Fe en e) : interactive e = false := by unfold interactive; rw [f.hk]; rfl
theorem Fs.bindAll (hk : e.scope.kind = .function) {E : Value → Shared → Prop} : ∀ (ns : List Str) (ds : List Dt) (vs : List Value) (Γ : List (Str × Dt)) (s : Shared) (Q : Unit → Shared → Prop), Fs w e X Ow Γ s → (∀ n ∈ ns, Stores e n) → ns.length = ds.length → IsAll s.heap X ds vs →
    (∀ s', Fs w e X Ow (updAll Γ (ns.zip ds)) s' → Kb e s s' → Q () s') → wpAny (model pw w) A (assignInOrder (ns.map fun n => bindName e n) vs) Q E s
  | [], [], vs, Γ, s, Q, F, _, _, i, h => by
    simp only [IsAll] at i; subst i
    exact wpAny_pure (h s F (Kb.refl s))
  | [], _ :: _, _, _, _, _, _, _, l, _, _ => by simp at l
  | _ :: _, [], _, _, _, _, _, _, l, _, _ => by simp at l
  | n :: ns, d :: ds, vs, Γ, s, Q, F, hs, l, i, h => by
    simp only [IsAll] at i
    obtain ⟨v, r, rfl, hv, hr⟩ := i
    refine assign_step (wpAny_bindName (F.store hk hv (hs n List.mem_cons_self).1 (hs n List.mem_cons_self).2 fun s' G k => ?_))
    exact Fs.bindAll hk ns ds r _ s' Q G (fun m hm => hs m (List.mem_cons_of_mem _ hm)) (by simpa using l) (k.isAll F hr) fun s'' H k' => h s'' H (k.trans k')
/-- x, y = (.., ..): the stores are made from behind -/
theorem Fn.assignSwap {x y : Str} {px py tp p' pos : Pos} {k k' : Nat} {v₁ v₂ : Expr} {d₁ d₂ : Dt} {Q : Flow → Shared → Prop} {E : Value → Shared → Prop} (F : Fn w s₀ Mu e X Ow Γ s) (f : Fe en e) (he : Ev w A e X Ow Γ (.Tuple [v₁, v₂] k' p') (.tup [d₁, d₂])) (hh : A.handled = none)
    (hx : en.lookup x = some .local) (hy : en.lookup y = some .local)
    (h : ∀ s', Fn w s₀ Mu e X Ow (upd (upd Γ y d₂) x d₁) s' → Q .next s')
    (hl : (py.line == px.line) = true := by rfl) (hne : (y == x) = false := by rfl) (hcx : (x == ("__classdict__" : Str)) = false := by rfl) (hcy : (y == ("__classdict__" : Str)) = false := by rfl)
    (hs : ([v₁, v₂].any fun | .Starred .. => true | _ => false) = false := by rfl) (hf : [v₁, v₂].all (foldedForSure 8) = false := by rfl) (hc : [v₁, v₂].all (constantsAlone 8) = false := by rfl)
    (hsw : swapsWithSole [.Tuple [.Name x px, .Name y py] k tp] (.Tuple [v₁, v₂] k' p') pos.line e = pure false := by rfl) :
    Wp w A (exec (.Assign [.Tuple [.Name x px, .Name y py] k tp] (.Tuple [v₁, v₂] k' p') pos) e) Q E s := .mk <| by
  refine Assign_Tuple_swapped (names := [x, y]) (he.use F.toCx fun v s₁ k₁ c₁ i₁ => ?_) hsw (swapped2 f hx hy hl hne hs hf hc)
  simp only [Is] at i₁
  obtain ⟨a, vs, rfl, ha, ht, hi⟩ := i₁
  have hlen : [x, y].length = vs.toArray.size := by rw [List.size_toArray, hi.length]; rfl
  rw [hlen]
  refine unpackItems_tuple hh ht fun h' hx' => ?_
  have F₁ := F.kp k₁
  have kp : Kp s₁ { s₁ with heap := h' } := Kp.mk' fun b o ho => hx' b o (Nat.ne_of_lt (Heap.lt_size ho)) ho
  have F₂ := F₁.kp kp
  refine Fs.bindAll f.hk [y, x] [d₂, d₁] vs.reverse Γ _ _ F₂.toFs (fun n hn => ?_) rfl ?_ fun s' G kb => h s' (F₂.ofKb G kb)
  · simp only [List.mem_cons, List.not_mem_nil, or_false] at hn
    rcases hn with rfl | rfl
    · exact ⟨.inl (f.kd _ _ hy), hcy⟩
    · exact ⟨.inl (f.kd _ _ hx), hcx⟩
  · have := (hi.keep kp.ext).reverse
    simpa using this
end
end Mine

namespace Mine
open PySem PySem.W PyProof.Rows PySem.SeqAt

noncomputable def fdAt (o : Obj) : FuncData := match o.data with | .func fd => fd | _ => default
section
variable (P : Params)
theorem fn38 : FnAt P 38 (fdAt (o38 P)) (fBody (inCls 2 1)) where
  lk := ⟨_, _, _, rfl⟩
  cd := ⟨37, _, _, _, rfl, rfl, rfl, rfl⟩
  bd := rfl
  clo := rfl
  gl := rfl
  bl := rfl
  co := rfl
  gn := rfl
  kd := rfl
  nd := by show (List.map _ (cellsFrom 0 (fScope (inCls 2 1)).names [])).Nodup; decide
theorem fn45 : FnAt P 45 (fdAt (o45 P)) (fBody (inCls 2 2)) where
  lk := ⟨_, _, _, rfl⟩
  cd := ⟨44, _, _, _, rfl, rfl, rfl, rfl⟩
  bd := rfl
  clo := rfl
  gl := rfl
  bl := rfl
  co := rfl
  gn := rfl
  kd := rfl
  nd := by show (List.map _ (cellsFrom 0 (fScope (inCls 2 2)).names [])).Nodup; decide
theorem fn52 : FnAt P 52 (fdAt (o52 P)) (fBody (inCls 2 3)) where
  lk := ⟨_, _, _, rfl⟩
  cd := ⟨51, _, _, _, rfl, rfl, rfl, rfl⟩
  bd := rfl
  clo := rfl
  gl := rfl
  bl := rfl
  co := rfl
  gn := rfl
  kd := rfl
  nd := by show (List.map _ (cellsFrom 0 (fScope (inCls 2 3)).names [])).Nodup; decide
theorem fn59 : FnAt P 59 (fdAt (o59 P)) (fBody (inCls 2 4)) where
  lk := ⟨_, _, _, rfl⟩
  cd := ⟨58, _, _, _, rfl, rfl, rfl, rfl⟩
  bd := rfl
  clo := rfl
  gl := rfl
  bl := rfl
  co := rfl
  gn := rfl
  kd := rfl
  nd := by show (List.map _ (cellsFrom 0 (fScope (inCls 2 4)).names [])).Nodup; decide
theorem fn73 : FnAt P 73 (fdAt (o73 P)) (fBody (inCls 2 6)) where
  lk := ⟨_, _, _, rfl⟩
  cd := ⟨72, _, _, _, rfl, rfl, rfl, rfl⟩
  bd := rfl
  clo := rfl
  gl := rfl
  bl := rfl
  co := rfl
  gn := rfl
  kd := rfl
  nd := by show (List.map _ (cellsFrom 0 (fScope (inCls 2 6)).names [])).Nodup; decide
theorem fn94 : FnAt P 94 (fdAt (o94 P)) (fBody (top 4)) where
  lk := ⟨_, _, _, rfl⟩
  cd := ⟨93, _, _, _, rfl, rfl, rfl, rfl⟩
  bd := rfl
  clo := rfl
  gl := rfl
  bl := rfl
  co := rfl
  gn := rfl
  kd := rfl
  nd := by show (List.map _ (cellsFrom 0 (fScope (top 4)).names [])).Nodup; decide
theorem fn112 : FnAt P 112 (fdAt (o112 P)) (fBody (top 7)) where
  lk := ⟨_, _, _, rfl⟩
  cd := ⟨111, _, _, _, rfl, rfl, rfl, rfl⟩
  bd := rfl
  clo := rfl
  gl := rfl
  bl := rfl
  co := rfl
  gn := rfl
  kd := rfl
  nd := by show (List.map _ (cellsFrom 0 (fScope (top 7)).names [])).Nodup; decide
theorem fn158 : FnAt P 158 (fdAt (o158 P)) (fBody (top 9)) where
  lk := ⟨_, _, _, rfl⟩
  cd := ⟨157, _, _, _, rfl, rfl, rfl, rfl⟩
  bd := rfl
  clo := rfl
  gl := rfl
  bl := rfl
  co := rfl
  gn := rfl
  kd := rfl
  nd := by show (List.map _ (cellsFrom 0 (fScope (top 9)).names [])).Nodup; decide
theorem fn172 : FnAt P 172 (fdAt (o172 P)) (fBody (top 12)) where
  lk := ⟨_, _, _, rfl⟩
  cd := ⟨171, _, _, _, rfl, rfl, rfl, rfl⟩
  bd := rfl
  clo := rfl
  gl := rfl
  bl := rfl
  co := rfl
  gn := rfl
  kd := rfl
  nd := by show (List.map _ (cellsFrom 0 (fScope (top 12)).names [])).Nodup; decide
theorem fn179 : FnAt P 179 (fdAt (o179 P)) (fBody (top 13)) where
  lk := ⟨_, _, _, rfl⟩
  cd := ⟨178, _, _, _, rfl, rfl, rfl, rfl⟩
  bd := rfl
  clo := rfl
  gl := rfl
  bl := rfl
  co := rfl
  gn := rfl
  kd := rfl
  nd := by show (List.map _ (cellsFrom 0 (fScope (top 13)).names [])).Nodup; decide
theorem fn186 : FnAt P 186 (fdAt (o186 P)) (fBody (top 14)) where
  lk := ⟨_, _, _, rfl⟩
  cd := ⟨185, _, _, _, rfl, rfl, rfl, rfl⟩
  bd := rfl
  clo := rfl
  gl := rfl
  bl := rfl
  co := rfl
  gn := rfl
  kd := rfl
  nd := by show (List.map _ (cellsFrom 0 (fScope (top 14)).names [])).Nodup; decide
theorem fn193 : FnAt P 193 (fdAt (o193 P)) (fBody (top 15)) where
  lk := ⟨_, _, _, rfl⟩
  cd := ⟨192, _, _, _, rfl, rfl, rfl, rfl⟩
  bd := rfl
  clo := rfl
  gl := rfl
  bl := rfl
  co := rfl
  gn := rfl
  kd := rfl
  nd := by show (List.map _ (cellsFrom 0 (fScope (top 15)).names [])).Nodup; decide
theorem fn200 : FnAt P 200 (fdAt (o200 P)) (fBody (top 17)) where
  lk := ⟨_, _, _, rfl⟩
  cd := ⟨199, _, _, _, rfl, rfl, rfl, rfl⟩
  bd := rfl
  clo := rfl
  gl := rfl
  bl := rfl
  co := rfl
  gn := rfl
  kd := rfl
  nd := by show (List.map _ (cellsFrom 0 (fScope (top 17)).names [])).Nodup; decide
theorem fn205 : FnAt P 205 (fdAt (o205 P)) (fBody (top 18)) where
  lk := ⟨_, _, _, rfl⟩
  cd := ⟨204, _, _, _, rfl, rfl, rfl, rfl⟩
  bd := rfl
  clo := rfl
  gl := rfl
  bl := rfl
  co := rfl
  gn := rfl
  kd := rfl
  nd := by show (List.map _ (cellsFrom 0 (fScope (top 18)).names [])).Nodup; decide
theorem fn210 : FnAt P 210 (fdAt (o210 P)) (fBody (top 19)) where
  lk := ⟨_, _, _, rfl⟩
  cd := ⟨209, _, _, _, rfl, rfl, rfl, rfl⟩
  bd := rfl
  clo := rfl
  gl := rfl
  bl := rfl
  co := rfl
  gn := rfl
  kd := rfl
  nd := by show (List.map _ (cellsFrom 0 (fScope (top 19)).names [])).Nodup; decide
theorem fn217 : FnAt P 217 (fdAt (o217 P)) (fBody (top 20)) where
  lk := ⟨_, _, _, rfl⟩
  cd := ⟨216, _, _, _, rfl, rfl, rfl, rfl⟩
  bd := rfl
  clo := rfl
  gl := rfl
  bl := rfl
  co := rfl
  gn := rfl
  kd := rfl
  nd := by show (List.map _ (cellsFrom 0 (fScope (top 20)).names [])).Nodup; decide
theorem fn222 : FnAt P 222 (fdAt (o222 P)) (fBody (top 21)) where
  lk := ⟨_, _, _, rfl⟩
  cd := ⟨221, _, _, _, rfl, rfl, rfl, rfl⟩
  bd := rfl
  clo := rfl
  gl := rfl
  bl := rfl
  co := rfl
  gn := rfl
  kd := rfl
  nd := by show (List.map _ (cellsFrom 0 (fScope (top 21)).names [])).Nodup; decide
theorem fn229 : FnAt P 229 (fdAt (o229 P)) (fBody (top 22)) where
  lk := ⟨_, _, _, rfl⟩
  cd := ⟨228, _, _, _, rfl, rfl, rfl, rfl⟩
  bd := rfl
  clo := rfl
  gl := rfl
  bl := rfl
  co := rfl
  gn := rfl
  kd := rfl
  nd := by show (List.map _ (cellsFrom 0 (fScope (top 22)).names [])).Nodup; decide
theorem fn234 : FnAt P 234 (fdAt (o234 P)) (fBody (top 23)) where
  lk := ⟨_, _, _, rfl⟩
  cd := ⟨233, _, _, _, rfl, rfl, rfl, rfl⟩
  bd := rfl
  clo := rfl
  gl := rfl
  bl := rfl
  co := rfl
  gn := rfl
  kd := rfl
  nd := by show (List.map _ (cellsFrom 0 (fScope (top 23)).names [])).Nodup; decide
theorem fn239 : FnAt P 239 (fdAt (o239 P)) (fBody (top 24)) where
  lk := ⟨_, _, _, rfl⟩
  cd := ⟨238, _, _, _, rfl, rfl, rfl, rfl⟩
  bd := rfl
  clo := rfl
  gl := rfl
  bl := rfl
  co := rfl
  gn := rfl
  kd := rfl
  nd := by show (List.map _ (cellsFrom 0 (fScope (top 24)).names [])).Nodup; decide
theorem fn244 : FnAt P 244 (fdAt (o244 P)) (fBody (top 25)) where
  lk := ⟨_, _, _, rfl⟩
  cd := ⟨243, _, _, _, rfl, rfl, rfl, rfl⟩
  bd := rfl
  clo := rfl
  gl := rfl
  bl := rfl
  co := rfl
  gn := rfl
  kd := rfl
  nd := by show (List.map _ (cellsFrom 0 (fScope (top 25)).names [])).Nodup; decide
theorem fn249 : FnAt P 249 (fdAt (o249 P)) (fBody (top 26)) where
  lk := ⟨_, _, _, rfl⟩
  cd := ⟨248, _, _, _, rfl, rfl, rfl, rfl⟩
  bd := rfl
  clo := rfl
  gl := rfl
  bl := rfl
  co := rfl
  gn := rfl
  kd := rfl
  nd := by show (List.map _ (cellsFrom 0 (fScope (top 26)).names [])).Nodup; decide
theorem gl_abs : GlobV P "abs" (.builtin "abs") := .inr ⟨by kernel_rfl, by kernel_rfl⟩
theorem gl_len : GlobV P "len" (.builtin "len") := .inr ⟨by kernel_rfl, by kernel_rfl⟩
theorem gl_ord : GlobV P "ord" (.builtin "ord") := .inr ⟨by kernel_rfl, by kernel_rfl⟩
theorem gl_chr : GlobV P "chr" (.builtin "chr") := .inr ⟨by kernel_rfl, by kernel_rfl⟩
theorem gl_max : GlobV P "max" (.builtin "max") := .inr ⟨by kernel_rfl, by kernel_rfl⟩
theorem gl_min : GlobV P "min" (.builtin "min") := .inr ⟨by kernel_rfl, by kernel_rfl⟩
theorem gl_sum : GlobV P "sum" (.builtin "sum") := .inr ⟨by kernel_rfl, by kernel_rfl⟩
theorem gl_divmod : GlobV P "divmod" (.builtin "divmod") := .inr ⟨by kernel_rfl, by kernel_rfl⟩
theorem gl_next : GlobV P "next" (.builtin "next") := .inr ⟨by kernel_rfl, by kernel_rfl⟩
theorem gl_iter : GlobV P "iter" (.builtin "iter") := .inr ⟨by kernel_rfl, by kernel_rfl⟩
theorem gl_zip : GlobV P "zip" (.type "zip") := .inr ⟨by kernel_rfl, by kernel_rfl⟩
theorem gl_enumerate : GlobV P "enumerate" (.type "enumerate") := .inr ⟨by kernel_rfl, by kernel_rfl⟩
theorem gl_range : GlobV P "range" (.type "range") := .inr ⟨by kernel_rfl, by kernel_rfl⟩
theorem gl_list : GlobV P "list" (.type "list") := .inr ⟨by kernel_rfl, by kernel_rfl⟩
theorem gl_int : GlobV P "int" (.type "int") := .inr ⟨by kernel_rfl, by kernel_rfl⟩
theorem gl_bytes : GlobV P "bytes" (.type "bytes") := .inr ⟨by kernel_rfl, by kernel_rfl⟩
theorem gl_tuple : GlobV P "tuple" (.type "tuple") := .inr ⟨by kernel_rfl, by kernel_rfl⟩
theorem gl_Whitespace : GlobV P "Whitespace" (.ref 83) := .inl (by kernel_rfl)
theorem gl_Int2AP : GlobV P "Int2AP" (.ref 94) := .inl (by kernel_rfl)
theorem gl_b1_set : GlobV P "b1_set" (.ref 102) := .inl (by kernel_rfl)
theorem gl_in_table_b1 : GlobV P "in_table_b1" (.ref 112) := .inl (by kernel_rfl)
theorem gl_b3_exceptions : GlobV P "b3_exceptions" (.ref 113) := .inl (by kernel_rfl)
theorem gl_map_table_b3 : GlobV P "map_table_b3" (.ref 158) := .inl (by kernel_rfl)
theorem gl_escape_cdata : GlobV P "_escape_cdata" (.ref 172) := .inl (by kernel_rfl)
theorem gl_escape_attrib : GlobV P "_escape_attrib" (.ref 179) := .inl (by kernel_rfl)
theorem gl_escape_attrib_html : GlobV P "_escape_attrib_html" (.ref 186) := .inl (by kernel_rfl)
theorem gl_escape_cdata_c14n : GlobV P "_escape_cdata_c14n" (.ref 193) := .inl (by kernel_rfl)
theorem gl_law_taken : GlobV P "_law_taken" (.ref 200) := .inl (by kernel_rfl)
theorem gl_law_drawn : GlobV P "_law_drawn" (.ref 205) := .inl (by kernel_rfl)
theorem gl_law_text : GlobV P "_law_text" (.ref 210) := .inl (by kernel_rfl)
theorem gl_law_escaped : GlobV P "_law_escaped" (.ref 217) := .inl (by kernel_rfl)
theorem gl_law_line : GlobV P "_law_line" (.ref 222) := .inl (by kernel_rfl)
theorem gl_law_cases : GlobV P "_law_cases" (.ref 229) := .inl (by kernel_rfl)
theorem gl_law_judged : GlobV P "_law_judged" (.ref 234) := .inl (by kernel_rfl)
theorem gl_law_plain : GlobV P "_law_plain" (.ref 239) := .inl (by kernel_rfl)
theorem gl_law_letters : GlobV P "_law_letters" (.ref 244) := .inl (by kernel_rfl)
end
end Mine

namespace Mine
open PySem PySem.W PyProof.Rows PySem.SeqAt

section
variable {w : World} {A : Around} {X : List Addr}
noncomputable def apTable : List UInt8 := [65, 66, 67, 68, 69, 70, 71, 72, 73, 74, 75, 76, 77, 78, 79, 80]
noncomputable def apOf (n : Nat) : Array UInt8 := #[(65 + n / 16).toUInt8, (65 + n % 16).toUInt8]
theorem ap_pick : ∀ m : Fin 16, KBy.picked apTable.toArray (some (m.val : Int)) (some ((m.val : Int) + 1)) = #[(65 + m.val).toUInt8] ∧ KBy.whole apTable.toArray (some (m.val : Int)) (some ((m.val : Int) + 1)) = false := by decide
theorem fdiv_nat (n k : Nat) : (n : Int).fdiv k = ((n / k : Nat) : Int) := by rw [Int.fdiv_eq_ediv_of_nonneg _ (Int.natCast_nonneg _)]; rfl
theorem fmod_nat (n k : Nat) : (n : Int).fmod k = ((n % k : Nat) : Int) := by rw [Int.fmod_eq_emod_of_nonneg _ (Int.natCast_nonneg _)]; rfl
noncomputable abbrev apG (m : Nat) (b : Array UInt8) : List (Str × Dt) := [("num", .int m), ("val", .bytes b), ("AP", .bytes apTable.toArray)]
set_option maxHeartbeats 1000000 in
theorem op_int2ap {n : Nat} (h0 : 16 ≤ n) (h1 : n < 256) (r : Room 1 A) : OpC w A X (.ref 94) [.int n] (.bytes (apOf n)) := .mk fun s vs tk wd x i => by
  obtain ⟨v, rfl, iv⟩ := i.one
  refine call_fn (names := ["num"]) (fn94 _) r tk wd x i rfl rfl (by rfl) (by decide) fun e s₁ he r' hown F => ?_
  have g : GEnv e := by subst he; exact (fn94 _).genv
  have hk := g.k
  have hsc : e.scope = fScope (top 4) := by subst he; rfl
  have kd : ∀ x k, (fScope (top 4)).names.lookup x = some k → e.kindOf x = some k := fun x k h => by rw [Env.kindOf, hsc]; exact h
  clear he
  refine execs_cons' (F.assign (Ev.bytes) hk (.inl (kd _ _ rfl)) fun s₂ F => ?_)
  refine execs_cons' (F.assign (Ev.bytes) hk (.inl (kd _ _ rfl)) fun s₃ F => ?_)
  refine execs_cons' (F.assign (Ev.call g (kd _ _ rfl) (gl_int _) (.ty _) (EvAll.cons (Ev.call g (kd _ _ rfl) (gl_abs _) (.blt _) (EvAll.cons (Ev.var hk) EvAll.nil) OpC.abs) EvAll.nil) OpC.toInt) hk (.inl (kd _ _ rfl)) fun s₄ F => ?_)
  have e1 : (if (n : Int) < 0 then -(n : Int) else n) = n := by rw [if_neg (by omega)]
  rw [e1] at F
  have ap : apTable.toArray = (List.toArray [65, 66, 67, 68, 69, 70, 71, 72, 73, 74, 75, 76, 77, 78, 79, 80] : Array UInt8) := rfl
  refine execs_cons' ((F.norm (apG n #[]) ⟨rfl, rfl, rfl, trivial⟩).while_ (fun k Ow Γ => Ow = [] ∧ ∃ m b, Γ = apG m b ∧ ((k = 2 ∧ m = n ∧ b = #[]) ∨ (k = 1 ∧ m = n / 16 ∧ b = #[(65 + n % 16).toUInt8]) ∨ (k = 0 ∧ m = 0 ∧ b = apOf n)))
    (n := 2) ⟨rfl, n, _, rfl, .inl ⟨rfl, rfl, rfl⟩⟩ fun k Ow' Γ' s₅ hI F => ?_)
  obtain ⟨rfl, m, b, rfl, hcase⟩ := hI
  refine wpb ((EvT.of (Ev.var hk) OpT.int).h s₅ F.toCx) fun c s₆ h => ?_
  obtain ⟨k₆, rfl⟩ := h
  have F := F.kp k₆
  by_cases hm : m = 0
  · subst hm
    rw [if_neg (by decide)]
    have hb : b = apOf n := by rcases hcase with ⟨_, a, _⟩ | ⟨_, a, _⟩ | ⟨_, _, a⟩ <;> first | exact a | omega
    subst hb
    refine execs_cons' (F.ret (Ev.var hk) fun v s₇ F iv => ?_)
    exact ⟨F.kept hown, iv.less fun a ha => List.mem_cons_of_mem _ (List.mem_append_right _ ha)⟩
  · have hm' : ((m : Int) != 0) = true := by simpa using hm
    rw [if_pos hm']
    refine execs_cons' (F.assignTup (Ev.call g (kd _ _ rfl) (gl_divmod _) (.blt _) (EvAll.cons (Ev.var hk) (EvAll.cons Ev.int EvAll.nil)) (OpC.divmod (by decide) (by decide))) r'.hd hk (stores_of kd (by rfl)) rfl fun s₇ F => ?_)
    have hm16 : m % 16 < 16 := Nat.mod_lt _ (by decide)
    have hp : KBy.picked apTable.toArray (some ((m % 16 : Nat) : Int)) (some (((m % 16 : Nat) : Int) + 1)) = #[(65 + m % 16).toUInt8] ∧ KBy.whole apTable.toArray (some ((m % 16 : Nat) : Int)) (some (((m % 16 : Nat) : Int) + 1)) = false := ap_pick ⟨m % 16, hm16⟩
    have hb2 : b.size ≤ 2 := by rcases hcase with ⟨_, _, rfl⟩ | ⟨_, _, rfl⟩ | ⟨_, a, _⟩ <;> first | simp | omega
    rw [show ((m : Int).fdiv 16) = ((m / 16 : Nat) : Int) from fdiv_nat m 16, show ((m : Int).fmod 16) = ((m % 16 : Nat) : Int) from fmod_nat m 16] at F
    refine execs_cons' (F.assign (Ev.bin (Op2.addB (b := KBy.picked apTable.toArray (some ((m % 16 : Nat) : Int)) (some (((m % 16 : Nat) : Int) + 1))) (c := b) (by rw [hp.1]; simp; omega)) (Ev.slice (OpS.bytes hp.2 (by rw [hp.1]; simp)) (Ev.var hk) (EvP.some (Ev.var hk)) (EvP.some (Ev.bin Op2.add (Ev.var hk) Ev.int))) (Ev.var hk)) hk (.inl (kd _ _ rfl)) fun s₈ F => ?_)
    rw [hp.1] at F
    refine execs_nil' ?_
    rcases hcase with ⟨rfl, rfl, rfl⟩ | ⟨rfl, rfl, rfl⟩ | ⟨_, a, _⟩
    · exact ⟨1, [], _, by decide, ⟨rfl, _, _, rfl, .inr (.inl ⟨rfl, rfl, rfl⟩)⟩, F.norm (apG (m / 16) _) ⟨rfl, rfl, rfl, trivial⟩⟩
    · refine ⟨0, [], _, by decide, ⟨rfl, _, _, rfl, .inr (.inr ⟨rfl, rfl, rfl⟩)⟩, F.norm (apG 0 _) ⟨?_, ?_, rfl, trivial⟩⟩
      · have : n / 16 / 16 = 0 := by omega
        rw [this]; rfl
      · have : n / 16 % 16 = n / 16 := by omega
        simp only [this]; rfl
    · exact absurd a hm
end
end Mine

namespace Mine
open PySem PySem.W PyProof.Rows PySem.SeqAt

section
variable {w : World} {A : Around} {X : List Addr}

theorem ltr_index (i : Fin 3) : Builtin.Str.occurrences "pqr" (ltr i) 0 ("pqr" : Str).length 1 = [i.val] := by revert i; decide +kernel
theorem bit_of (k : Fin 8) (i : Fin 3) : Builtin.bitAnd ((0 + (k.val : Int)).fdiv (2 ^ ((i.val : Int)).toNat)) 1 = bi ((Fm.v i).ev k.val) := by revert k i; decide +kernel
noncomputable def unInt : Dt → Int
  | .int i => i
  | _ => 0

theorem plain_range (f : Fm) : (rangeDt 0 8).map (fun d => Dt.int (bi (f.ev (unInt d).toNat))) = (plainL f).map .int := by
  simp only [rangeDt, plainL, List.map_map]
  rfl
theorem zip_map2 {α β γ : Type} (f : α → β) (g : α → γ) : ∀ l : List α, (l.map f).zip (l.map g) = l.map fun x => (f x, g x)
  | [] => rfl
  | x :: l => by simp only [List.map_cons, List.zip_cons_cons, zip_map2 f g l]
noncomputable def pairG (c : Bool) : Dt → Dt
  | .tup [.int p, .int q] => .int (if c then (if q < p then q else p) else (if q > 1 - p then q else 1 - p))
  | d => d
theorem pair_bi (c x y : Bool) : (if c then (if bi y < bi x then bi y else bi x) else (if bi y > 1 - bi x then bi y else 1 - bi x)) = bi (if c then x && y else !x || y) := by revert c x y; decide
theorem plain_pairs (c : Bool) (a b : Fm) : ((((plainL a).map Dt.int).zip ((plainL b).map Dt.int)).map fun q => Dt.tup [q.1, q.2]).map (pairG c) = (plainL (.bin c a b)).map .int := by
  simp only [plainL, List.map_map]
  rw [zip_map2, List.map_map]
  refine List.map_congr_left fun k _ => ?_
  simp only [Function.comp, pairG, pair_bi]
  cases c <;> rfl
theorem pairs_mem {a b : Fm} {d : Dt} (h : d ∈ ((((plainL a).map Dt.int).zip ((plainL b).map Dt.int)).map fun q => Dt.tup [q.1, q.2])) : ∃ x y : Bool, d = .tup [.int (bi x), .int (bi y)] := by
  simp only [plainL, List.map_map] at h
  rw [zip_map2, List.map_map] at h
  obtain ⟨k, _, rfl⟩ := List.mem_map.mp h
  exact ⟨_, _, rfl⟩
theorem opS_eq (c : Bool) : (opS c == ("&" : Str)) = c := by revert c; decide

set_option maxHeartbeats 2000000 in
theorem op_plain : ∀ (f : Fm) {A : Around} {X : List Addr}, Room (f.dep + 2) A → OpC w A X (.ref 239) [f.dt] (.lst ((plainL f).map .int)) := by
  intro f
  induction f with
  | v j =>
    intro A X r
    refine .mk fun s vs tk wd x i => ?_
    obtain ⟨v, rfl, iv⟩ := i.one
    refine call_fn (names := ["formula"]) (fn239 _) r tk wd x i rfl rfl (by rfl) (by decide) fun e s₁ he r' hown F => ?_
    have fe : Fe (fScope (top 24)).names e := by subst he; exact Fe.of (fn239 _)
    clear he
    have hk := fe.hk
    have hlen : ([Dt.str (ltr j)]).length < 2 ^ 62 := by simp
    refine execs_cons' (F.if_ (b := true) (EvT.cmp (Op2.eqi (i := 1) (j := 1)) (Ev.call fe.g (fe.kd _ _ rfl) (gl_len _) (.blt _) (EvAll.cons (Ev.var hk) EvAll.nil) (OpC.lenT hlen)) Ev.int) (fun _ s₂ F => ?_) (fun h => by cases h))
    refine execs_cons' (F.ret (d := .lst ((plainL (.v j)).map .int)) (Ev.comp1 [("formula", (Fm.v j).dt)] (fun d => .int (bi ((Fm.v j).ev (unInt d).toNat))) fe (by rfl) (EvIt.range1 fe.g r'.hd (fe.kd _ _ rfl) (gl_range _) (EvAll.cons Ev.int EvAll.nil) (by decide) (by decide)) (by decide) ⟨rfl, trivial⟩ (fun e' X' g' hX d hd => ?_) ?_) fun v s₃ F iv => ?_)
    · simp only [rangeDt, List.mem_map] at hd
      obtain ⟨k, hk8, rfl⟩ := hd
      have hk8 := List.mem_range.mp hk8
      have hj : (0 : Int) ≤ (j.val : Int) := Int.natCast_nonneg _
      show Ev _ _ _ _ _ _ _ (.int (bi ((Fm.v j).ev (0 + (k : Int)).toNat)))
      rw [show (0 + (k : Int)).toNat = k by omega, ← bit_of ⟨k, hk8⟩ j]
      exact Ev.bin Op2.and (Ev.bin (Op2.shr hj) (Ev.var g'.1.k) (Ev.methN strT PySem.F.plainAttrs_str PySem.F.slot_str_index PySem.F.type_str_index Ev.str
        (EvAll.cons (Ev.sub (d₁ := (Fm.v j).dt) (Op2.idxT (j := 0) rfl rfl hlen) (Ev.var g'.1.k) Ev.int) EvAll.nil) (OpC.index (ltr_index j)))) Ev.int
    · exact plain_range _
    · exact ⟨F.kept hown, iv.less fun a ha => List.mem_cons_of_mem _ (List.mem_append_right _ ha)⟩
  | bin c a b iha ihb =>
    intro A X r
    refine .mk fun s vs tk wd x i => ?_
    obtain ⟨v, rfl, iv⟩ := i.one
    refine call_fn (names := ["formula"]) (fn239 _) r tk wd x i rfl rfl (by rfl) (by decide) fun e s₁ he r' hown F => ?_
    have fe : Fe (fScope (top 24)).names e := by subst he; exact Fe.of (fn239 _)
    clear he
    have hk := fe.hk
    have hlen : ([Dt.str (opS c), a.dt, b.dt]).length < 2 ^ 62 := by simp
    have hda : a.dep + 2 ≤ (Fm.bin c a b).dep + 1 := by simp only [Fm.dep]; omega
    have hdb : b.dep + 2 ≤ (Fm.bin c a b).dep + 1 := by simp only [Fm.dep]; omega
    refine execs_cons' (F.if_ (b := false) (EvT.cmp (Op2.eqi (i := 3) (j := 1)) (Ev.call fe.g (fe.kd _ _ rfl) (gl_len _) (.blt _) (EvAll.cons (Ev.var hk) EvAll.nil) (OpC.lenT hlen)) Ev.int) (fun h => by cases h) (fun _ s₂ F => ?_))
    refine execs_nil' ?_
    have hpl : ∀ f : Fm, ((plainL f).map Dt.int).length = 8 := fun f => by simp [plainL]
    refine execs_cons' (F.assign (Ev.listZip fe.g r'.hd (fe.kd _ _ rfl) (fe.kd _ _ rfl) (gl_list _) (gl_zip _)
      (EvAll.cons (Ev.call fe.g (fe.kd _ _ rfl) (gl_law_plain _) (.fn (fn239 _)) (EvAll.cons (Ev.sub (d₁ := (Fm.bin c a b).dt) (Op2.idxT (j := 1) rfl rfl hlen) (Ev.var hk) Ev.int) EvAll.nil) (iha (r'.less hda)))
        (EvAll.cons (Ev.call fe.g (fe.kd _ _ rfl) (gl_law_plain _) (.fn (fn239 _)) (EvAll.cons (Ev.sub (d₁ := (Fm.bin c a b).dt) (Op2.idxT (j := 2) rfl rfl hlen) (Ev.var hk) Ev.int) EvAll.nil) (ihb (r'.less hdb))) EvAll.nil))
      (by rw [hpl, hpl]) (by rw [hpl]; decide)) hk (.inl (fe.kd _ _ rfl)) fun s₃ F => ?_)
    refine execs_cons' (F.ret (d := .lst ((plainL (.bin c a b)).map .int)) (Ev.comp1 [("formula", (Fm.bin c a b).dt)] (pairG c) fe (by rfl) (EvIt.lst r'.hd (Ev.var hk)) (by simp [plainL]; decide) ⟨rfl, trivial⟩ (fun e' X' g' hX d hd => ?_) (plain_pairs c a b)) fun v s₃ F iv => ?_)
    · obtain ⟨p, q, rfl⟩ := pairs_mem hd
      have h2 : ([Dt.int (bi p), Dt.int (bi q)]).length < 2 ^ 62 := by simp
      refine Ev.ife (c := c) (EvT.eq (EvT.cmp (Op2.eqs (x := opS c) (y := "&")) (Ev.sub (d₁ := (Fm.bin c a b).dt) (Op2.idxT (j := 0) rfl rfl hlen) (Ev.var g'.1.k) Ev.int) Ev.str) (opS_eq c)) (fun hc => ?_) (fun hc => ?_)
      · subst hc
        exact Ev.call g'.1 (g'.2 _ rfl) (gl_min _) (.blt _) (EvAll.cons (Ev.var g'.1.k) EvAll.nil) (OpC.minT (ns := [bi p, bi q]) r'.hd (by show (if bi q < bi p then bi q else bi p) ∈ _; split <;> simp) (by
          show ∀ x ∈ [bi p, bi q], (if bi q < bi p then bi q else bi p) ≤ x
          intro x hx
          simp only [List.mem_cons, List.not_mem_nil, or_false] at hx
          rcases hx with rfl | rfl <;> split <;> omega))
      · subst hc
        exact Ev.call g'.1 (g'.2 _ rfl) (gl_max _) (.blt _) (EvAll.cons (Ev.bin Op2.sub Ev.int (Ev.sub (d₁ := .tup [.int (bi p), .int (bi q)]) (Op2.idxT (j := 0) rfl rfl h2) (Ev.var g'.1.k) Ev.int)) (EvAll.cons (Ev.sub (d₁ := .tup [.int (bi p), .int (bi q)]) (Op2.idxT (j := 1) rfl rfl h2) (Ev.var g'.1.k) Ev.int) EvAll.nil)) (OpC.max2 r'.hd)
    · exact ⟨F.kept hown, iv.less fun a ha => List.mem_cons_of_mem _ (List.mem_append_right _ ha)⟩
end
end Mine

namespace Mine
open PySem PySem.W PyProof.Rows PySem.SeqAt

section
variable {w : World} {A : Around} {X : List Addr}

noncomputable def maskL : List Bool → Nat
  | [] => 0
  | b :: r => (if b then 1 else 0) + 2 * maskL r
theorem maskL_lt : ∀ bs : List Bool, maskL bs < 2 ^ bs.length
  | [] => by decide
  | b :: r => by
    have := maskL_lt r
    simp only [maskL, List.length_cons, Nat.pow_succ]
    split <;> omega
noncomputable def shL : List Bool → Nat → List Int
  | [], _ => []
  | b :: r, n => bi b * 2 ^ n :: shL r (n + 1)
theorem shL_sum : ∀ (bs : List Bool) (n : Nat), (shL bs n).sum = ((2 ^ n * maskL bs : Nat) : Int)
  | [], n => by simp [shL, maskL]
  | b :: r, n => by
    have e : 2 ^ n * ((if b = true then 1 else 0) + 2 * maskL r) = (if b = true then 2 ^ n else 0) + 2 ^ (n + 1) * maskL r := by
      rw [Nat.mul_add, Nat.pow_succ, Nat.mul_assoc]; cases b <;> simp
    simp only [shL, List.sum_cons, shL_sum r (n + 1), maskL, e]
    rw [Int.natCast_add]
    congr 1
    cases b <;> simp [bi]
theorem shL_take : ∀ (bs : List Bool) (n k : Nat), (shL bs n).take k = shL (bs.take k) n
  | [], n, k => by simp [shL]
  | b :: r, n, 0 => by simp [shL]
  | b :: r, n, k + 1 => by simp [shL, shL_take r (n + 1) k]
theorem shL_mem : ∀ (bs : List Bool) (n : Nat) (x : Int), x ∈ shL bs n → 0 ≤ x ∧ x ≤ ((2 ^ (n + bs.length) : Nat) : Int)
  | [], n, x, h => by simp [shL] at h
  | b :: r, n, x, h => by
    simp only [shL, List.mem_cons] at h
    rcases h with rfl | h
    · have h1 : (2 : Int) ^ n = ((2 ^ n : Nat) : Int) := by simp
      have h2 : 2 ^ n ≤ 2 ^ (n + (b :: r).length) := Nat.pow_le_pow_right (by decide) (by omega)
      rw [h1]
      generalize 2 ^ n = p at h2 ⊢
      generalize 2 ^ (n + (b :: r).length) = q at h2 ⊢
      cases b
      · simp only [bi, Bool.false_eq_true, if_false]; omega
      · simp only [bi, if_true]; omega
    · have := shL_mem r (n + 1) x h
      rw [show n + (b :: r).length = n + 1 + r.length by simp; omega]
      exact this
noncomputable def pairB : Dt → Int
  | .tup [.int k, .int b] => b * 2 ^ k.toNat
  | _ => 0
theorem enum_sh : ∀ (bs : List Bool) (n : Nat), (((bs.map fun b => Dt.int (bi b)).zipIdx n).map fun p => Dt.tup [.int p.2, p.1]).map (fun d => Dt.int (pairB d)) = (shL bs n).map .int
  | [], n => rfl
  | b :: r, n => by
    simp only [List.map_cons, List.zipIdx_cons, shL, enum_sh r (n + 1)]
    simp [pairB]
theorem enum_mem : ∀ (bs : List Bool) (n : Nat) (d : Dt), d ∈ (((bs.map fun b => Dt.int (bi b)).zipIdx n).map fun p => Dt.tup [.int p.2, p.1]) → ∃ (k : Nat) (b : Bool), n ≤ k ∧ k < n + bs.length ∧ d = .tup [.int k, .int (bi b)]
  | [], n, d, h => by simp at h
  | b :: r, n, d, h => by
    simp only [List.map_cons, List.zipIdx_cons, List.mem_cons] at h
    rcases h with rfl | h
    · exact ⟨n, b, Nat.le_refl _, by simp, rfl⟩
    · obtain ⟨k, c, h1, h2, h3⟩ := enum_mem r (n + 1) d h
      exact ⟨k, c, by omega, by simp; omega, h3⟩
noncomputable def unTup : Dt → List Dt
  | .tup l => l
  | _ => []

set_option maxHeartbeats 2000000 in
theorem op_letters {bs : List Bool} (h8 : bs.length = 8) (r : Room 1 A) : OpC w A X (.ref 244) [.lst (bs.map fun b => .int (bi b))] (.bytes (apOf (maskL bs))) := .mk fun s vs tk wd x i => by
  obtain ⟨v, rfl, iv⟩ := i.one
  refine call_fn (names := ["cases"]) (fn244 _) r tk wd x i rfl rfl (by rfl) (by decide) fun e s₁ he r' hown F => ?_
  have fe : Fe (fScope (top 25)).names e := by subst he; exact Fe.of (fn244 _)
  clear he
  have hk := fe.hk
  have hlt : maskL bs < 256 := by have := maskL_lt bs; rw [h8] at this; exact this
  have hsum : (shL bs 0).sum = (maskL bs : Nat) := by rw [shL_sum]; simp
  refine execs_cons' (F.assign (Ev.call fe.g (fe.kd _ _ rfl) (gl_sum _) (.blt _) (EvAll.cons (Ev.compT [] unTup (fun d => .int (pairB d)) (l := (shL bs 0).map .int) fe r'.hd (by rfl)
    (EvIt.enum fe.g r'.hd (fe.kd _ _ rfl) (gl_enumerate _) (EvAll.cons (Ev.var hk) EvAll.nil)) ?_ trivial ?_ (fun e' X' g' hX d hd => ?_) ?_) EvAll.nil) (OpC.sumL (ns := shL bs 0) r'.hd ?_ ?_)) hk (.inl (fe.kd _ _ rfl)) fun s₂ F => ?_)
  · simp [enumDt, h8]; decide
  · intro d hd
    obtain ⟨k, b, _, _, rfl⟩ := enum_mem bs 0 d hd
    exact ⟨rfl, rfl⟩
  · obtain ⟨k, b, _, h2, rfl⟩ := enum_mem bs 0 d hd
    rw [h8] at h2
    have e1 : (pairB (.tup [.int k, .int (bi b)])) = bi b * 2 ^ (k : Int).toNat := rfl
    rw [e1]
    refine Ev.bin (Op2.shl (Int.natCast_nonneg _) ?_) (Ev.var g'.1.k) (Ev.var g'.1.k)
    have : Builtin.Int.intBits (bi b) ≤ 1 := by cases b <;> decide
    omega
  · exact enum_sh bs 0
  · intro x hx
    have := shL_mem bs 0 x hx
    rw [h8] at this
    unfold InLong
    omega
  · intro k
    rw [shL_take, shL_sum]
    have := maskL_lt (bs.take k)
    have h2 : 2 ^ (bs.take k).length ≤ 2 ^ 8 := Nat.pow_le_pow_right (by decide) (by simp; omega)
    unfold InLong
    simp only [Nat.pow_zero, Nat.one_mul]
    omega
  · rw [hsum] at F
    have e16 : ((maskL bs : Nat) : Int).fdiv 16 = ((maskL bs / 16 : Nat) : Int) := fdiv_nat _ 16
    have m16 : ((maskL bs : Nat) : Int).fmod 16 = ((maskL bs % 16 : Nat) : Int) := fmod_nat _ 16
    refine execs_cons' (F.ret (Ev.call fe.g (fe.kd _ _ rfl) (gl_bytes _) (.ty _) (EvAll.cons (Ev.lst (EvAll.cons (Ev.bin Op2.add Ev.int (Ev.bin (Op2.div (by decide) (by decide)) (Ev.var hk) Ev.int)) (EvAll.cons (Ev.bin Op2.add Ev.int (Ev.bin (Op2.mod (by decide)) (Ev.var hk) Ev.int)) EvAll.nil)) (by show 2 ≤ sizeLine; decide)) EvAll.nil)
      (OpC.bytesL (ns := [65 + ((maskL bs : Nat) : Int).fdiv 16, 65 + ((maskL bs : Nat) : Int).fmod 16]) r'.hd ?_ (by show 2 ≤ sizeLine; decide))) fun v s₃ F iv => ?_)
    · intro n hn
      simp only [List.mem_cons, List.not_mem_nil, or_false] at hn
      rw [e16, m16] at hn
      have := Nat.mod_lt (maskL bs) (show 16 > 0 by decide)
      have : maskL bs / 16 < 16 := by omega
      rcases hn with rfl | rfl <;> omega
    · refine ⟨F.kept hown, ?_⟩
      have e2 : byteArr [65 + ((maskL bs : Nat) : Int).fdiv 16, 65 + ((maskL bs : Nat) : Int).fmod 16] = apOf (maskL bs) := by
        rw [e16, m16]; rfl
      rw [e2] at iv
      exact iv.less fun a ha => List.mem_cons_of_mem _ (List.mem_append_right _ ha)
end
end Mine

namespace Mine
open PySem PySem.W PyProof.Rows PySem.SeqAt

section
variable {w : World} {A : Around} {X : List Addr}

theorem ltr_ix (i : Fin 3) : Builtin.Str.occurrences "pqr" (ltr i) 0 ("pqr" : Str).length 1 = [i.val] := by revert i; decide +kernel
noncomputable abbrev firDt : List Dt := [.int 80, .int 112, .int 119823, .int 119875, .int 120239]
theorem first_ix (c : Int) : seqIndex? (c.fmod 5) 5 = some (ix5 c) ∧ firDt[ix5 c]? = some (.int (fstOf c : Nat)) := by
  obtain ⟨h, e⟩ := ix5_lt c
  rw [e]
  unfold fstOf
  have : ∀ k : Fin 5, seqIndex? ((k.val : Nat) : Int) 5 = some k.val ∧ firDt[k.val]? = some (.int (firstL.getD k.val 0 : Nat)) := fun k => by
    match k with
    | 0 | 1 | 2 | 3 | 4 => exact ⟨rfl, rfl⟩
  exact this ⟨ix5 c, h⟩
noncomputable abbrev unsDt : List Dt := [.lst [], .lst [.int 173], .lst [.int 8203], .lst [.int 65279], .lst [.int 8288], .lst [.int 6155]]
theorem uns_ix (c : Int) : seqIndex? ((c.fdiv 5).fmod 6) 6 = some (ix6 c) ∧ unsDt[ix6 c]? = some (.lst ((unsOf c).map fun n => .int (n : Nat))) := by
  obtain ⟨h, e⟩ := ix6_lt c
  rw [e]
  unfold unsOf
  have : ∀ k : Fin 6, seqIndex? ((k.val : Nat) : Int) 6 = some k.val ∧ unsDt[k.val]? = some (.lst ((unseenL.getD k.val []).map fun n => .int (n : Nat))) := fun k => by
    match k with
    | 0 | 1 | 2 | 3 | 4 | 5 => exact ⟨rfl, rfl⟩
  exact this ⟨ix6 c, h⟩
theorem join_signs : ∀ l : List Nat, l.length ≤ 1 → ∀ a : Nat, Txt.join "" ((a :: l).map fun n => S [n]) = S (a :: l) ∧ JoinOk "" ((a :: l).map fun n => S [n]) = true
  | [], _, a => ⟨rfl, rfl⟩
  | [b], _, a => ⟨rfl, rfl⟩
  | _ :: _ :: _, h, _ => by simp at h
theorem code_small (c : Int) (i : Fin 3) : ∀ n ∈ (fstOf c + i.val) :: unsOf c, n ≤ 1114111 := by
  obtain ⟨h5, _⟩ := ix5_lt c
  obtain ⟨h6, _⟩ := ix6_lt c
  have h1 : ∀ k : Fin 5, firstL.getD k.val 0 ≤ 120239 := by decide
  have h2 : ∀ k : Fin 6, ∀ n ∈ unseenL.getD k.val [], n ≤ 65279 := by decide
  intro n hn
  rcases List.mem_cons.mp hn with rfl | hn
  · have := h1 ⟨ix5 c, h5⟩
    unfold fstOf
    have := i.isLt
    simp only at *
    omega
  · have := h2 ⟨ix6 c, h6⟩ n hn
    omega
theorem opS_S (amp : Bool) : opS amp = S [opC amp] := by revert amp; decide

noncomputable def unI : Dt → Int
  | .int i => i
  | _ => 0
set_option maxHeartbeats 400000 in
theorem op_text (c : Int) : ∀ (f : Fm) {A : Around} {X : List Addr}, f.dep ≤ 16 → Room (f.dep + 2) A → OpC w A X (.ref 210) [f.dt, .int c] (.str (S (txt c f))) := by
  intro f
  induction f with
  | v j =>
    intro A X hdep r
    refine .mk fun s vs tk wd x i => ?_
    obtain ⟨v, v', rfl, iv, iv'⟩ := i.two
    refine call_fn (names := ["formula", "choice"]) (fn210 _) r tk wd x i rfl rfl (by rfl) (by decide) fun e s₁ he r' hown F => ?_
    have fe : Fe (fScope (top 19)).names e := by subst he; exact Fe.of (fn210 _)
    clear he
    have hk := fe.hk
    have hlen : ([Dt.str (ltr j)]).length < 2 ^ 62 := by simp
    refine execs_cons' (F.if_ (b := false) (EvT.cmp (Op2.eqi (i := 1) (j := 3)) (Ev.call fe.g (fe.kd _ _ rfl) (gl_len _) (.blt _) (EvAll.cons (Ev.var hk) EvAll.nil) (OpC.lenT hlen)) Ev.int) (fun h => by cases h) (fun _ s₂ F => ?_))
    refine execs_nil' ?_
    refine execs_cons' (F.assign (Ev.sub (d₁ := .lst firDt) (Op2.idxL (first_ix c).1 (first_ix c).2 (by simp)) (Ev.lst (EvAll.cons Ev.int (EvAll.cons Ev.int (EvAll.cons Ev.int (EvAll.cons Ev.int (EvAll.cons Ev.int EvAll.nil))))) (by simp; decide))
      (Ev.bin (Op2.mod (by decide)) (Ev.var hk) Ev.int)) hk (.inl (fe.kd _ _ rfl)) fun s₃ F => ?_)
    refine execs_cons' (F.assign (Ev.sub (d₁ := .lst unsDt) (Op2.idxL (uns_ix c).1 (uns_ix c).2 (by simp))
      (Ev.lst (EvAll.cons (Ev.lst EvAll.nil (by simp)) (EvAll.cons (Ev.lst (EvAll.cons Ev.int EvAll.nil) (by simp; decide)) (EvAll.cons (Ev.lst (EvAll.cons Ev.int EvAll.nil) (by simp; decide)) (EvAll.cons (Ev.lst (EvAll.cons Ev.int EvAll.nil) (by simp; decide)) (EvAll.cons (Ev.lst (EvAll.cons Ev.int EvAll.nil) (by simp; decide)) (EvAll.cons (Ev.lst (EvAll.cons Ev.int EvAll.nil) (by simp; decide)) EvAll.nil)))))) (by simp; decide))
      (Ev.bin (Op2.mod (by decide)) (Ev.bin (Op2.div (by decide) (by decide)) (Ev.var hk) Ev.int) Ev.int)) hk (.inl (fe.kd _ _ rfl)) fun s₄ F => ?_)
    refine execs_cons' (F.ret (d := .str (S (txt c (.v j)))) (Ev.eq (Ev.methN strT PySem.F.plainAttrs_str PySem.F.slot_str_join PySem.F.type_str_join Ev.str
      (EvAll.cons (Ev.comp1 [] (fun d => .str (S [(unI d).toNat])) (l := ((txt c (.v j)).map fun n => S [n]).map .str) fe (by rfl)
        (EvIt.lst r'.hd (Ev.bin (Op2.addL (ds := [.int ((fstOf c : Nat) + (j.val : Int))]) (es := (unsOf c).map fun n => .int (n : Nat)) (by have := uns_len c; simp; unfold sizeLine; omega)) (Ev.lst (EvAll.cons (Ev.bin Op2.add (Ev.var hk)
          (Ev.methN strT PySem.F.plainAttrs_str PySem.F.slot_str_index PySem.F.type_str_index Ev.str (EvAll.cons (Ev.sub (d₁ := (Fm.v j).dt) (Op2.idxT (j := 0) rfl rfl hlen) (Ev.var hk) Ev.int) EvAll.nil) (OpC.index (ltr_ix j)))) EvAll.nil) (by simp; decide)) (Ev.var hk)))
        (by have := uns_len c; simp; unfold sizeLine; omega) trivial (fun e' X' g' hX d hd => ?_) ?_) EvAll.nil)
      (OpC.join (texts := (txt c (.v j)).map fun n => S [n]) (join_signs _ (uns_len c) _).2)) ?_) fun v s₅ F iv => ?_)
    · have hc := code_small c j
      have : ∃ n : Nat, d = .int (n : Nat) ∧ n ≤ 1114111 := by
        simp only [List.cons_append, List.nil_append, List.mem_cons, List.mem_map] at hd
        rcases hd with rfl | ⟨n, hn, rfl⟩
        · exact ⟨fstOf c + j.val, by simp, hc _ List.mem_cons_self⟩
        · exact ⟨n, rfl, hc _ (List.mem_cons_of_mem _ hn)⟩
      obtain ⟨n, rfl, hn⟩ := this
      exact Ev.call g'.1 (g'.2 _ rfl) (gl_chr _) (.blt _) (EvAll.cons (Ev.var g'.1.k) EvAll.nil) (OpC.chr (i := (n : Int)) (Int.natCast_nonneg _) (by omega))
    · simp only [txt, List.cons_append, List.nil_append, List.map_cons, List.map_map, unI]
      congr 1
    · exact congrArg Dt.str (join_signs _ (uns_len c) (fstOf c + j.val)).1
    · exact ⟨F.kept hown, iv.less fun a ha => List.mem_cons_of_mem _ (List.mem_append_right _ ha)⟩
  | bin amp a b iha ihb =>
    intro A X hdep r
    refine .mk fun s vs tk wd x i => ?_
    obtain ⟨v, v', rfl, iv, iv'⟩ := i.two
    refine call_fn (names := ["formula", "choice"]) (fn210 _) r tk wd x i rfl rfl (by rfl) (by decide) fun e s₁ he r' hown F => ?_
    have fe : Fe (fScope (top 19)).names e := by subst he; exact Fe.of (fn210 _)
    clear he
    have hk := fe.hk
    have hlen : ([Dt.str (opS amp), a.dt, b.dt]).length < 2 ^ 62 := by simp
    have hda : a.dep + 2 ≤ (Fm.bin amp a b).dep + 1 := by simp only [Fm.dep]; omega
    have hdb : b.dep + 2 ≤ (Fm.bin amp a b).dep + 1 := by simp only [Fm.dep]; omega
    have hda' : a.dep ≤ 15 := by simp only [Fm.dep] at hdep; omega
    have hdb' : b.dep ≤ 15 := by simp only [Fm.dep] at hdep; omega
    have la := txt_len c a
    have lb := txt_len c b
    have pa : 2 ^ a.dep ≤ 2 ^ 15 := Nat.pow_le_pow_right (by decide) hda'
    have pb : 2 ^ b.dep ≤ 2 ^ 15 := Nat.pow_le_pow_right (by decide) hdb'
    have len : ∀ l : List Nat, (S l).length = l.length := fun l => by simp [S, Str.length]
    have z : sizeLine = 16777216 := rfl
    refine execs_cons' (F.if_ (b := true) (EvT.cmp (Op2.eqi (i := 3) (j := 3)) (Ev.call fe.g (fe.kd _ _ rfl) (gl_len _) (.blt _) (EvAll.cons (Ev.var hk) EvAll.nil) (OpC.lenT hlen)) Ev.int) (fun _ s₂ F => ?_) (fun h => by cases h))
    have callA := fun (k : Nat) (g : Fm) (hg : seqIndex? ((k : Nat) : Int) [Dt.str (opS amp), a.dt, b.dt].length = some k ∧ [Dt.str (opS amp), a.dt, b.dt][k]? = some g.dt) => hg
    refine execs_cons' (F.ret (d := .str (S (txt c (.bin amp a b)))) (Ev.eq (Ev.bin (Op2.cat (x := S ([40] ++ txt c a ++ [opC amp] ++ txt c b)) (y := S [41]) ?_)
      (Ev.eq (Ev.bin (Op2.cat (x := S ([40] ++ txt c a ++ [opC amp])) (y := S (txt c b)) ?_)
        (Ev.eq (Ev.bin (Op2.cat (x := S ([40] ++ txt c a)) (y := S [opC amp]) ?_)
          (Ev.eq (Ev.bin (Op2.cat (x := S [40]) (y := S (txt c a)) ?_) Ev.str
            (Ev.call fe.g (fe.kd _ _ rfl) (gl_law_text _) (.fn (fn210 _)) (EvAll.cons (Ev.sub (d₁ := (Fm.bin amp a b).dt) (Op2.idxT (j := 1) rfl rfl hlen) (Ev.var hk) Ev.int) (EvAll.cons (Ev.var hk) EvAll.nil)) (iha (by omega) (r'.less hda)))) (by rw [S_append]))
          (Ev.eq (Ev.sub (d₁ := (Fm.bin amp a b).dt) (Op2.idxT (j := 0) rfl rfl hlen) (Ev.var hk) Ev.int) (by rw [opS_S]))) (by rw [S_append]))
        (Ev.call fe.g (fe.kd _ _ rfl) (gl_law_text _) (.fn (fn210 _)) (EvAll.cons (Ev.sub (d₁ := (Fm.bin amp a b).dt) (Op2.idxT (j := 2) rfl rfl hlen) (Ev.var hk) Ev.int) (EvAll.cons (Ev.var hk) EvAll.nil)) (ihb (by omega) (r'.less hdb)))) (by rw [S_append]))
      Ev.str) ?_) fun v s₅ F iv => ?_)
    · rw [len, len, z]; simp only [List.length_append, List.length_cons, List.length_nil]; omega
    · rw [len, len, z]; simp only [List.length_append, List.length_cons, List.length_nil]; omega
    · rw [len, len, z]; simp only [List.length_append, List.length_cons, List.length_nil]; omega
    · rw [len, len, z]; simp only [List.length_append, List.length_cons, List.length_nil]; omega
    · rw [S_append]; rfl
    · exact ⟨F.kept hown, iv.less fun a ha => List.mem_cons_of_mem _ (List.mem_append_right _ ha)⟩
end
end Mine

namespace Mine
open PySem PySem.W PyProof.Rows PySem.SeqAt

section
variable {w : World} {A : Around} {X : List Addr}

noncomputable abbrev takG (us : List Fm) (c : Int) : List (Str × Dt) := [("usable", .lst (us.map Fm.dt)), ("choice", .int c)]
set_option maxHeartbeats 1000000 in
theorem op_taken (us : List Fm) (c : Int) (h0 : 0 < us.length) (hsz : us.length ≤ 100) (D : Nat) (hD : ∀ f ∈ us, f.dep ≤ D) (r : Room (D + 3) A) : OpC w A X (.ref 200) [.lst (us.map Fm.dt), .int c] (taken us c).dt := .mk fun s vs tk wd x i => by
  obtain ⟨v, v', rfl, iv, iv'⟩ := i.two
  refine call_fn (names := ["usable", "choice"]) (fn200 _) r tk wd x i rfl rfl (by rfl) (by decide) fun e s₁ he r' hown F => ?_
  have fe : Fe (fScope (top 17)).names e := by subst he; exact Fe.of (fn200 _)
  clear he
  have hk := fe.hk
  have hl : (us.map Fm.dt).length = us.length := by simp
  have z : sizeLine = 16777216 := rfl
  have hrev : (us.map Fm.dt).reverse = us.reverse.map Fm.dt := by rw [List.map_reverse]
  have fin : ∀ s' v f, Fn w s (ownOf e []) e (outOf e X) [] (takG us c) s' → Is s'.heap (outOf e X) (Fm.dt f) v → f = taken us c → Kp s s' ∧ Is s'.heap X (taken us c).dt v := fun s' v f F iv hf =>
    ⟨F.kept hown, hf ▸ iv.less fun a ha => List.mem_cons_of_mem _ (List.mem_append_right _ ha)⟩
  refine execs_cons' (F.for_ (src := us.reverse.map Fm.dt) (hrev ▸ EvIt.lst r'.hd (Ev.rev (Ev.var hk) (Ev.neg Ev.int) (by rw [hl, z]; omega)))
    (fun i Ow Γ => Ow = [] ∧ AllHas (takG us c) Γ ∧ taken us c = (takenGo us c (us.reverse.drop i)).getD (pickF us c)) ⟨rfl, ⟨rfl, rfl, trivial⟩, rfl⟩ (fun i d Ow' Γ' wr s' v hd hI _ F hv => ?_) (fun Ow' Γ' s' hI _ F => ?_))
  · obtain ⟨rfl, hΓ, ht⟩ := hI
    have F := F.norm _ hΓ
    rw [List.getElem?_map, Option.map_eq_some_iff] at hd
    obtain ⟨f, hf, rfl⟩ := hd
    have hfm : f ∈ us := by have := List.mem_of_getElem? hf; simpa using this
    have hdrop : us.reverse.drop i = f :: us.reverse.drop (i + 1) := by
      obtain ⟨hi, e⟩ := List.getElem?_eq_some_iff.mp hf
      rw [List.drop_eq_getElem_cons hi, e]
    rw [hdrop] at ht
    refine wpAny_assign_Name (F.store (x := "formula") hk hv (fe.loc (.inl rfl)) rfl fun s₂ F => ?_)
    have F := F.norm [("formula", f.dt), ("usable", .lst (us.map Fm.dt)), ("choice", .int c)] ⟨rfl, rfl, rfl, trivial⟩
    have next : ∀ (Q : Flow → Shared → Prop) s₃, taken us c = (takenGo us c (us.reverse.drop (i + 1))).getD (pickF us c) → Fn w s' (ownOf e []) e (wr ++ outOf e X) [] [("formula", f.dt), ("usable", .lst (us.map Fm.dt)), ("choice", .int c)] s₃ →
        Turn w s (ownOf e []) e (outOf e X) [] (fun i Ow Γ => Ow = [] ∧ AllHas (takG us c) Γ ∧ taken us c = (takenGo us c (us.reverse.drop i)).getD (pickF us c)) Q i wr s' .next s₃ := fun Q s₃ h F => ⟨[], _, ⟨rfl, ⟨rfl, rfl, trivial⟩, h⟩, rfl, F⟩
    cases f with
    | v j =>
      have hlen : ([Dt.str (ltr j)]).length < 2 ^ 62 := by simp
      refine execs_cons' (F.if_ (b := false) (EvT.eq (EvT.cmp (Op2.eqs (x := ltr j) (y := "&")) (Ev.sub (d₁ := (Fm.v j).dt) (Op2.idxT (j := 0) rfl rfl hlen) (Ev.var hk) Ev.int) Ev.str) (ltr_op j true).1) (fun h => by cases h) fun _ s₃ F => execs_nil' ?_)
      refine execs_cons' (F.if_ (b := false && true) (EvT.and (EvT.eq (EvT.cmp (Op2.eqs (x := ltr j) (y := ">")) (Ev.sub (d₁ := (Fm.v j).dt) (Op2.idxT (j := 0) rfl rfl hlen) (Ev.var hk) Ev.int) Ev.str) (ltr_op j false).1) (fun h => by cases h)) (fun h => by cases h) fun _ s₃ F => execs_nil' ?_)
      exact execs_nil' (next _ _ ht F)
    | bin amp a b =>
      have hlen : ([Dt.str (opS amp), a.dt, b.dt]).length < 2 ^ 62 := by simp
      have ret : ∀ (g : Fm) (v : Value) (s₃ : Shared), g = taken us c → Fn w s' (ownOf e []) e (wr ++ outOf e X) [] [("formula", (Fm.bin amp a b).dt), ("usable", .lst (us.map Fm.dt)), ("choice", .int c)] s₃ → Is s₃.heap (wr ++ outOf e X) g.dt v →
          ∃ Ow' Γ' d, Ow'.map (·.1) = ([] : Owns).map (·.1) ∧ Fn w s' (ownOf e []) e (wr ++ outOf e X) Ow' Γ' s₃ ∧ Is s₃.heap (wr ++ outOf e X) d v ∧
            ∀ s₄, Fn w s (ownOf e []) e (outOf e X) Ow' Γ' s₄ → Is s₄.heap (outOf e X) d v → Kp s s₄ ∧ Is s₄.heap X (taken us c).dt v := fun g v s₃ hg F iv =>
        ⟨[], _, g.dt, rfl, F, iv, fun s₄ G iv => ⟨G.kept hown, hg ▸ iv.less fun a ha => List.mem_cons_of_mem _ (List.mem_append_right _ ha)⟩⟩
      cases amp with
      | true =>
        simp only [takenGo, Option.getD_some] at ht
        obtain ⟨h2, e2⟩ := ix2_lt c
        have hpick : seqIndex? (1 + c.fmod 2) 3 = some (1 + ix2 c) ∧ [Dt.str (opS true), a.dt, b.dt][1 + ix2 c]? = some (taken us c).dt := by
          rw [e2, ht]
          have : ix2 c = 0 ∨ ix2 c = 1 := by omega
          rcases this with q | q <;> rw [q] <;> exact ⟨rfl, rfl⟩
        refine execs_cons' (F.if_ (b := true) (EvT.eq (EvT.cmp (Op2.eqs (x := opS true) (y := "&")) (Ev.sub (d₁ := (Fm.bin true a b).dt) (Op2.idxT (j := 0) rfl rfl hlen) (Ev.var hk) Ev.int) Ev.str) (by decide)) (fun _ s₃ F => ?_) (fun h => by cases h))
        exact execs_cons' (F.ret (Ev.sub (d₁ := (Fm.bin true a b).dt) (Op2.idxT hpick.1 hpick.2 hlen) (Ev.var hk) (Ev.bin Op2.add Ev.int (Ev.bin (Op2.mod (by decide)) (Ev.var hk) Ev.int))) fun v s₅ F iv => ret _ v s₅ rfl F iv)
      | false =>
        refine execs_cons' (F.if_ (b := false) (EvT.eq (EvT.cmp (Op2.eqs (x := opS false) (y := "&")) (Ev.sub (d₁ := (Fm.bin false a b).dt) (Op2.idxT (j := 0) rfl rfl hlen) (Ev.var hk) Ev.int) Ev.str) (by decide)) (fun h => by cases h) fun _ s₃ F => execs_nil' ?_)
        have hin : ((us.map Fm.dt).any fun x => deq x a.dt) = decide (a ∈ us) := by
          rw [List.any_map, Bool.eq_iff_iff]
          simp only [Function.comp, fm_deq, List.any_eq_true, decide_eq_true_eq]
          exact ⟨fun ⟨x, hx, q⟩ => q ▸ hx, fun h => ⟨a, h, rfl⟩⟩
        have hu := r'.un
        refine execs_cons' (F.if_ (b := true && (decide (a ∈ us) && true)) (EvT.and (EvT.eq (EvT.cmp (Op2.eqs (x := opS false) (y := ">")) (Ev.sub (d₁ := (Fm.bin false a b).dt) (Op2.idxT (j := 0) rfl rfl hlen) (Ev.var hk) Ev.int) Ev.str) (by decide))
          (fun _ => EvT.and (EvT.eq (EvT.cmp (Op2.inL (D + 1) (fun x hx => ?_) (by omega)) (Ev.sub (d₁ := (Fm.bin false a b).dt) (Op2.idxT (j := 1) rfl rfl hlen) (Ev.var hk) Ev.int) (Ev.var hk)) hin) fun _ => EvT.andN)) (fun hb s₃ F => ?_) fun hb s₃ F => execs_nil' ?_)
        · obtain ⟨f, hf', rfl⟩ := List.mem_map.mp hx
          exact fm_dkin _ _ _ (by have := hD f hf'; omega)
        · have ha : a ∈ us := by simpa using hb
          simp only [takenGo, ha, if_true, Option.getD_some] at ht
          exact execs_cons' (F.ret (Ev.sub (d₁ := (Fm.bin false a b).dt) (Op2.idxT (j := 2) rfl rfl hlen) (Ev.var hk) Ev.int) fun v s₅ F iv => ret b v s₅ ht.symm F iv)
        · have ha : a ∉ us := by simpa using hb
          simp only [takenGo, ha, if_false] at ht
          exact execs_nil' (next _ _ ht F)
  · obtain ⟨rfl, hΓ, ht⟩ := hI
    have F := F.norm _ hΓ
    rw [List.drop_eq_nil_of_le (by simp)] at ht
    have h1 := Int.fmod_nonneg_of_pos c (b := us.length) (by omega)
    have h2 := Int.fmod_lt_of_pos c (b := us.length) (by omega)
    obtain ⟨k, hk'⟩ : ∃ k : Nat, c.fmod us.length = k := ⟨(c.fmod us.length).toNat, by omega⟩
    have hklt : k < us.length := by omega
    refine execs_cons' (F.ret (d := (taken us c).dt) (Ev.sub (d₁ := .lst (us.map Fm.dt)) (Op2.idxL (i := c.fmod (us.map Fm.dt).length) (j := k) ?_ ?_ (by rw [hl]; omega)) (Ev.var hk) (Ev.bin (Op2.mod ?_) (Ev.var hk) (Ev.call fe.g (fe.kd _ _ rfl) (gl_len _) (.blt _) (EvAll.cons (Ev.var hk) EvAll.nil) (OpC.len (ds := us.map Fm.dt) (by rw [hl]; omega))))) fun v s₅ F iv => fin _ _ _ F iv rfl)
    · rw [hl, hk']
      unfold seqIndex?
      simp; omega
    · rw [List.getElem?_map, List.getElem?_eq_getElem hklt, ht]
      simp only [takenGo, Option.getD_none, pickF, hk', Int.toNat_natCast, Option.map_some]
      rw [List.getD_eq_getElem?_getD, List.getElem?_eq_getElem hklt]; rfl
    · rw [hl]; omega
end
end Mine

namespace Mine
open PySem PySem.W PyProof.Rows PySem.SeqAt

section
variable {w : World} {A : Around} {s₀ : Shared} {Mu : List Addr} {en : List (Str × NameKind)} {e : Env} {X : List Addr} {Ow : Owns} {s : Shared}

theorem Fn.esc {l zc : List Nat} {c : Nat} {y z : Str} {k₁ k₂ k₃ : Nat} {p₁ p₂ p₃ p₄ p₅ p₆ p₇ p₈ p₉ pa pb : Pos} {Q : Flow → Shared → Prop} {E : Value → Shared → Prop} (hy : y = ⟨#[c]⟩) (hz : z = S zc) (hne : (y == z) = false) (hb : c ∈ l → l.length + (l.length + 1) * zc.length ≤ 16777216) {l' : List Nat} (hl' : subst1 c zc l = l')
    (fe : Fe en e) (hen : en.lookup ("text" : Str) = some .local)
    (h : ∀ s', Fn w s₀ Mu e X Ow [("text", .str (S l'))] s' → Q .next s') (F : Fn w s₀ Mu e X Ow [("text", .str (S l))] s)
    (hbase : attributeBase (.Name "text" p₅) "replace" e (eval (.Name "text" p₅) e) = eval (.Name "text" p₅) e := by rfl)
    (hline : (p₆.endLine == p₉.line) = true := by rfl)
    (hsw : swapsWith (.Call (.Attribute (.Name "text" p₅) "replace" p₆) [.Constant (.str y) k₂ p₇, .Constant (.str z) k₃ p₈] [] p₉) (some (.Name "text" p₄)) pa.line e = pure false := by rfl) :
    Wp w A (exec (.If (.Compare (.Constant (.str y) k₁ p₁) [.In] [.Name "text" p₂] p₃) [.Assign [.Name "text" p₄] (.Call (.Attribute (.Name "text" p₅) "replace" p₆) [.Constant (.str y) k₂ p₇, .Constant (.str z) k₃ p₈] [] p₉) pa] [] pb) e) Q E s := by
  have hk := fe.hk
  have len : ∀ l : List Nat, (S l).length = l.length := fun l => by simp [S, Str.length]
  subst hy hl'
  refine F.if_ (b := decide (c ∈ l)) (EvT.eq (EvT.cmp (Op2.inS (x := S l)) Ev.str (Ev.var hk)) (found1 l c)) (fun hb' s₂ F => ?_) (fun hb' s₂ F => execs_nil' (h _ ?_))
  · refine execs_cons' (F.assign (d := .str (S (subst1 c zc l))) (Ev.eq (Ev.replace (x := S l) (Ev.var hk) hne (by rw [hz, len, len]; exact hb (by simpa using hb')) hbase hline) (by rw [hz, replace1])) hk (fe.loc (.inl hen)) (fun s₃ F => execs_nil' (h _ ?_)) rfl hsw)
    exact F.norm _ ⟨rfl, trivial⟩
  · have : c ∉ l := by simpa using hb'
    rw [subst1_free c zc l this]; exact F

noncomputable def ampL : List Nat := [38, 97, 109, 112, 59]
noncomputable def gtL : List Nat := [38, 103, 116, 59]
noncomputable def ltL : List Nat := [38, 108, 116, 59]
/-- signs that no hand changes but & and > -/
noncomputable def Clean (l : List Nat) : Prop := ∀ n ∈ l, n ≠ 60 ∧ n ≠ 34 ∧ n ≠ 13 ∧ n ≠ 10 ∧ n ≠ 9
theorem Clean.subst {l z : List Nat} {c : Nat} (h : Clean l) (hz : Clean z) : Clean (subst1 c z l) := fun n hn => by
  simp only [subst1, List.mem_flatMap] at hn
  obtain ⟨m, hm, hn⟩ := hn
  split at hn
  · exact hz n hn
  · rw [List.mem_singleton.mp hn]; exact h m hm
theorem clean_amp : Clean ampL := by unfold Clean; decide
theorem clean_gt : Clean gtL := by unfold Clean; decide
theorem Clean.free {l z : List Nat} {c : Nat} (h : Clean l) (hc : c = 60 ∨ c = 34 ∨ c = 13 ∨ c = 10 ∨ c = 9) : c ∉ l ∧ subst1 c z l = l := by
  have : c ∉ l := fun hm => by
    obtain ⟨h1, h2, h3, h4, h5⟩ := h c hm
    rcases hc with q | q | q | q | q
    · exact h1 q
    · exact h2 q
    · exact h3 q
    · exact h4 q
    · exact h5 q
  exact ⟨this, subst1_free c z l this⟩
/-- what each of the hands makes of a text -/
noncomputable def esc (l : List Nat) : List Nat := subst1 62 gtL (subst1 38 ampL l)

set_option maxHeartbeats 1000000 in
theorem op_cdata {l : List Nat} (hl : l.length ≤ 10000) (cl : Clean l) (r : Room 1 A) : OpC w A X (.ref 172) [.str (S l)] (.str (S (esc l))) := .mk fun s vs tk wd x i => by
  obtain ⟨v, rfl, iv⟩ := i.one
  refine call_fn (names := ["text"]) (fn172 _) r tk wd x i rfl rfl (by rfl) (by decide) fun e s₁ he r' hown F => ?_
  have fe : Fe (fScope (top 12)).names e := by subst he; exact Fe.of (fn172 _)
  clear he
  have b1 := subst1_len 38 ampL l
  have e1 : ampL.length = 5 := rfl
  have e3 : gtL.length = 4 := rfl
  rw [e1] at b1
  have c1 : Clean (subst1 38 ampL l) := cl.subst clean_amp
  have c2 : Clean (esc l) := c1.subst clean_gt
  refine execs_cons' (Fn.try_ (execs_cons' (Fn.esc (c := 38) (zc := ampL) rfl rfl (by decide) (fun _ => by rw [e1]; omega) rfl fe rfl (fun s₂ F => ?_) F)))
  refine execs_cons' (Fn.esc (c := 60) (zc := ltL) rfl rfl (by decide) (fun h => absurd h (c1.free (z := []) (.inl rfl)).1) (c1.free (.inl rfl)).2 fe rfl (fun s₂ F => ?_) F)
  refine execs_cons' (Fn.esc (c := 62) (zc := gtL) rfl rfl (by decide) (fun _ => by rw [e3]; omega) rfl fe rfl (fun s₂ F => ?_) F)
  exact execs_cons' (F.ret (Ev.var fe.hk) fun v s₅ F iv => ⟨F.kept hown, iv.less fun a ha => List.mem_cons_of_mem _ (List.mem_append_right _ ha)⟩)

set_option maxHeartbeats 1000000 in
theorem op_attrib {l : List Nat} (hl : l.length ≤ 10000) (cl : Clean l) (r : Room 1 A) : OpC w A X (.ref 179) [.str (S l)] (.str (S (esc l))) := .mk fun s vs tk wd x i => by
  obtain ⟨v, rfl, iv⟩ := i.one
  refine call_fn (names := ["text"]) (fn179 _) r tk wd x i rfl rfl (by rfl) (by decide) fun e s₁ he r' hown F => ?_
  have fe : Fe (fScope (top 13)).names e := by subst he; exact Fe.of (fn179 _)
  clear he
  have b1 := subst1_len 38 ampL l
  have e1 : ampL.length = 5 := rfl
  have e3 : gtL.length = 4 := rfl
  rw [e1] at b1
  have c1 : Clean (subst1 38 ampL l) := cl.subst clean_amp
  have c2 : Clean (esc l) := c1.subst clean_gt
  refine execs_cons' (Fn.try_ (execs_cons' (Fn.esc (c := 38) (zc := ampL) rfl rfl (by decide) (fun _ => by rw [e1]; omega) rfl fe rfl (fun s₂ F => ?_) F)))
  refine execs_cons' (Fn.esc (c := 60) (zc := ltL) rfl rfl (by decide) (fun h => absurd h (c1.free (z := []) (.inl rfl)).1) (c1.free (.inl rfl)).2 fe rfl (fun s₂ F => ?_) F)
  refine execs_cons' (Fn.esc (c := 62) (zc := gtL) rfl rfl (by decide) (fun _ => by rw [e3]; omega) rfl fe rfl (fun s₂ F => ?_) F)
  refine execs_cons' (Fn.esc (c := 34) (zc := [38, 113, 117, 111, 116, 59]) rfl rfl (by decide) (fun h => absurd h (c2.free (z := []) (.inr (.inl rfl))).1) (c2.free (.inr (.inl rfl))).2 fe rfl (fun s₂ F => ?_) F)
  refine execs_cons' (Fn.esc (c := 13) (zc := [38, 35, 49, 51, 59]) rfl rfl (by decide) (fun h => absurd h (c2.free (z := []) (.inr (.inr (.inl rfl)))).1) (c2.free (.inr (.inr (.inl rfl)))).2 fe rfl (fun s₂ F => ?_) F)
  refine execs_cons' (Fn.esc (c := 10) (zc := [38, 35, 49, 48, 59]) rfl rfl (by decide) (fun h => absurd h (c2.free (z := []) (.inr (.inr (.inr (.inl rfl))))).1) (c2.free (.inr (.inr (.inr (.inl rfl))))).2 fe rfl (fun s₂ F => ?_) F)
  refine execs_cons' (Fn.esc (c := 9) (zc := [38, 35, 48, 57, 59]) rfl rfl (by decide) (fun h => absurd h (c2.free (z := []) (.inr (.inr (.inr (.inr rfl))))).1) (c2.free (.inr (.inr (.inr (.inr rfl))))).2 fe rfl (fun s₂ F => ?_) F)
  exact execs_cons' (F.ret (Ev.var fe.hk) fun v s₅ F iv => ⟨F.kept hown, iv.less fun a ha => List.mem_cons_of_mem _ (List.mem_append_right _ ha)⟩)

set_option maxHeartbeats 1000000 in
theorem op_html {l : List Nat} (hl : l.length ≤ 10000) (cl : Clean l) (r : Room 1 A) : OpC w A X (.ref 186) [.str (S l)] (.str (S (esc l))) := .mk fun s vs tk wd x i => by
  obtain ⟨v, rfl, iv⟩ := i.one
  refine call_fn (names := ["text"]) (fn186 _) r tk wd x i rfl rfl (by rfl) (by decide) fun e s₁ he r' hown F => ?_
  have fe : Fe (fScope (top 14)).names e := by subst he; exact Fe.of (fn186 _)
  clear he
  have b1 := subst1_len 38 ampL l
  have e1 : ampL.length = 5 := rfl
  have e3 : gtL.length = 4 := rfl
  rw [e1] at b1
  have c1 : Clean (subst1 38 ampL l) := cl.subst clean_amp
  have c2 : Clean (esc l) := c1.subst clean_gt
  refine execs_cons' (Fn.try_ (execs_cons' (Fn.esc (c := 38) (zc := ampL) rfl rfl (by decide) (fun _ => by rw [e1]; omega) rfl fe rfl (fun s₂ F => ?_) F)))
  refine execs_cons' (Fn.esc (c := 62) (zc := gtL) rfl rfl (by decide) (fun _ => by rw [e3]; omega) rfl fe rfl (fun s₂ F => ?_) F)
  refine execs_cons' (Fn.esc (c := 34) (zc := [38, 113, 117, 111, 116, 59]) rfl rfl (by decide) (fun h => absurd h (c2.free (z := []) (.inr (.inl rfl))).1) (c2.free (.inr (.inl rfl))).2 fe rfl (fun s₂ F => ?_) F)
  exact execs_cons' (F.ret (Ev.var fe.hk) fun v s₅ F iv => ⟨F.kept hown, iv.less fun a ha => List.mem_cons_of_mem _ (List.mem_append_right _ ha)⟩)

set_option maxHeartbeats 1000000 in
theorem op_c14n {l : List Nat} (hl : l.length ≤ 10000) (cl : Clean l) (r : Room 1 A) : OpC w A X (.ref 193) [.str (S l)] (.str (S (esc l))) := .mk fun s vs tk wd x i => by
  obtain ⟨v, rfl, iv⟩ := i.one
  refine call_fn (names := ["text"]) (fn193 _) r tk wd x i rfl rfl (by rfl) (by decide) fun e s₁ he r' hown F => ?_
  have fe : Fe (fScope (top 15)).names e := by subst he; exact Fe.of (fn193 _)
  clear he
  have b1 := subst1_len 38 ampL l
  have e1 : ampL.length = 5 := rfl
  have e3 : gtL.length = 4 := rfl
  rw [e1] at b1
  have c1 : Clean (subst1 38 ampL l) := cl.subst clean_amp
  have c2 : Clean (esc l) := c1.subst clean_gt
  refine execs_cons' (Fn.try_ (execs_cons' (Fn.esc (c := 38) (zc := ampL) rfl rfl (by decide) (fun _ => by rw [e1]; omega) rfl fe rfl (fun s₂ F => ?_) F)))
  refine execs_cons' (Fn.esc (c := 60) (zc := ltL) rfl rfl (by decide) (fun h => absurd h (c1.free (z := []) (.inl rfl)).1) (c1.free (.inl rfl)).2 fe rfl (fun s₂ F => ?_) F)
  refine execs_cons' (Fn.esc (c := 62) (zc := gtL) rfl rfl (by decide) (fun _ => by rw [e3]; omega) rfl fe rfl (fun s₂ F => ?_) F)
  refine execs_cons' (Fn.esc (c := 13) (zc := [38, 35, 120, 68, 59]) rfl rfl (by decide) (fun h => absurd h (c2.free (z := []) (.inr (.inr (.inl rfl)))).1) (c2.free (.inr (.inr (.inl rfl)))).2 fe rfl (fun s₂ F => ?_) F)
  exact execs_cons' (F.ret (Ev.var fe.hk) fun v s₅ F iv => ⟨F.kept hown, iv.less fun a ha => List.mem_cons_of_mem _ (List.mem_append_right _ ha)⟩)
end
end Mine

namespace Mine
open PySem PySem.W PyProof.Rows PySem.SeqAt

section
variable {w : World} {A : Around} {X : List Addr}

set_option maxHeartbeats 1000000 in
theorem op_escaped {l : List Nat} {h : Int} (hl : l.length ≤ 10000) (cl : Clean l) (r : Room 2 A) : OpC w A X (.ref 217) [.str (S l), .int h] (.str (S (esc l))) := .mk fun s vs tk wd x i => by
  obtain ⟨v, v', rfl, iv, iv'⟩ := i.two
  refine call_fn (names := ["text", "hand"]) (fn217 _) r tk wd x i rfl rfl (by rfl) (by decide) fun e s₁ he r' hown F => ?_
  have fe : Fe (fScope (top 20)).names e := by subst he; exact Fe.of (fn217 _)
  clear he
  have hk := fe.hk
  refine execs_cons' (F.if_ (EvT.cmp (Op2.lt (i := h) (j := 2)) (Ev.var hk) Ev.int) (fun _ s₂ F => ?_) fun _ s₂ F => execs_nil' ?_)
  · exact execs_cons' (F.ret (Ev.ife (EvT.of (Ev.var hk) (OpT.int (i := h)))
      (fun _ => Ev.call fe.g (fe.kd _ _ rfl) (gl_escape_attrib _) (.fn (fn179 _)) (EvAll.cons (Ev.var hk) EvAll.nil) (op_attrib hl cl r'))
      (fun _ => Ev.call fe.g (fe.kd _ _ rfl) (gl_escape_cdata _) (.fn (fn172 _)) (EvAll.cons (Ev.var hk) EvAll.nil) (op_cdata hl cl r'))) fun v s₅ F iv => ⟨F.kept hown, iv.less fun a ha => List.mem_cons_of_mem _ (List.mem_append_right _ ha)⟩)
  · exact execs_cons' (F.ret (Ev.ife (EvT.cmp (Op2.eqi (i := h) (j := 2)) (Ev.var hk) Ev.int)
      (fun _ => Ev.call fe.g (fe.kd _ _ rfl) (gl_escape_attrib_html _) (.fn (fn186 _)) (EvAll.cons (Ev.var hk) EvAll.nil) (op_html hl cl r'))
      (fun _ => Ev.call fe.g (fe.kd _ _ rfl) (gl_escape_cdata_c14n _) (.fn (fn193 _)) (EvAll.cons (Ev.var hk) EvAll.nil) (op_c14n hl cl r'))) fun v s₅ F iv => ⟨F.kept hown, iv.less fun a ha => List.mem_cons_of_mem _ (List.mem_append_right _ ha)⟩)
end
end Mine

namespace Mine
open PySem PySem.W PyProof.Rows PySem.SeqAt

section
variable {w : World} {A : Around} {s₀ : Shared} {Mu : List Addr} {e : Env} {X : List Addr} {Ow : Owns} {Γ : List (Str × Dt)} {s : Shared}
/-- len(x) of a list of the frame's own -/
theorem Ev.lenOwn {p pos : Pos} {ex : Expr} {a : Addr} {ds : List Dt} (g : GEnv e) (hk : e.kindOf "len" = some .globalImplicit) (hm : (a, ds) ∈ Ow) (h : Ev w A e X Ow Γ ex (.own a)) (hn : ds.length < 2 ^ 62)
    (hst : ∃ x r, backTo pos (starEach [ex] e) = (false, x) :: r := by exact ⟨_, _, rfl⟩) (hpl : (backTo pos (starEach [ex] e)).any (·.1) = false := by rfl)
    (he : starEach (ex :: []) e = (false, eval ex e) :: starEach [] e := by rfl) : Ev w A e X Ow Γ (.Call (.Name "len" p) [ex] [] pos) (.int ds.length) := .mk fun s c => by
  refine wpAny_Call_NameR ((gl_len w.params).load g hk c.wd ?_ rfl)
  obtain ⟨x, r, hst⟩ := hst
  refine callWith_fv (.blt _) c.wd hst hpl (wpb ((EvAll.cons h EvAll.nil he).h s c) fun vs s₁ ⟨k₁, i₁⟩ => ?_)
  have c₁ := c.keep k₁
  refine ⟨c₁.wd, ?_⟩
  obtain ⟨v, rfl, iv⟩ := i₁.one
  simp only [Is] at iv
  subst iv
  obtain ⟨_, us, hl, hi⟩ := c₁.ow _ hm
  have l1 := hi.length
  refine Calls.call_len_list hl.isList (by simp at l1 ⊢; omega) ⟨k₁.trans (Kp.tok _ _ (by omega)), ?_⟩
  dsimp only at l1
  simp only [Is, List.size_toArray, l1]; exact ⟨_, rfl⟩
end
section
variable {w : World} {A : Around} {X : List Addr}

noncomputable abbrev drG (a : Addr) (b : List Nat) : List (Str × Dt) := [("lines", .own a), ("blocks", .lst (natsDt b))]
set_option maxHeartbeats 4000000 in
theorem op_drawn (ns : List Int) (h6 : ns.length ≤ 6) (r : Room 16 A) : OpC w A X (.ref 205) [.lst (ns.map .int)] (.lst (lnsDt (drawnL ns))) := .mk fun s vs tk wd x i => by
  obtain ⟨v, rfl, iv⟩ := i.one
  refine call_fn (names := ["numbers"]) (fn205 _) r tk wd x i rfl rfl (by rfl) (by decide) fun e s₁ he r' hown F => ?_
  have fe : Fe (fScope (top 18)).names e := by subst he; exact Fe.of (fn205 _)
  clear he
  have hk := fe.hk
  have z : sizeLine = 16777216 := rfl
  refine execs_cons' (F.newOwn hk (.inl (fe.kd _ _ rfl)) fun a s₂ haX hK F => ?_)
  refine execs_cons' (F.assign (Ev.lst EvAll.nil (by simp)) hk (fe.loc (.inr rfl)) fun s₃ F => ?_)
  have F := F.norm [("blocks", .lst []), ("lines", .own a), ("numbers", .lst (ns.map .int))] ⟨rfl, rfl, rfl, trivial⟩
  refine execs_cons' (F.for_ (src := ns.map .int) (EvIt.lst r'.hd (Ev.var hk))
    (fun i Ow Γ => ∃ ls b, Ow = [(a, lnsDt ls)] ∧ AllHas (drG a b) Γ ∧ Good ls b ∧ ls.length = i ∧ drawnGo ls b (ns.drop i) = drawnL ns) ⟨[], [], rfl, ⟨rfl, rfl, trivial⟩, Good.nil0, rfl, rfl⟩ (fun i d Ow' Γ' wr s' v hd hI ho F hv => ?_) (fun Ow' Γ' s' hI _ F => ?_))
  · obtain ⟨ls, b, rfl, hΓ, hg, rfl, hdr⟩ := hI
    have F := F.norm _ hΓ
    rw [List.getElem?_map, Option.map_eq_some_iff] at hd
    obtain ⟨n, hn, rfl⟩ := hd
    have hi6 : ls.length < 6 := by have := (List.getElem?_eq_some_iff.mp hn).1; omega
    have hdrop : ns.drop ls.length = n :: ns.drop (ls.length + 1) := by
      obtain ⟨hi, e⟩ := List.getElem?_eq_some_iff.mp hn
      rw [List.drop_eq_getElem_cons hi, e]
    rw [hdrop] at hdr
    simp only [drawnGo] at hdr
    have hb3 := hg.three.1
    have hbl := hg.three.2
    have hlsl := lnsDt_len ls
    refine wpAny_assign_Name (F.store (x := "v") hk hv (fe.loc (.inl rfl)) rfl fun s₄ F => ?_)
    have F := F.norm [("v", .int n), ("lines", .own a), ("blocks", .lst (natsDt b))] ⟨rfl, rfl, rfl, trivial⟩
    refine execs_cons' (F.assignSwap fe (Ev.tup (EvAll.cons (Ev.bin (Op2.mod (by decide)) (Ev.var hk) Ev.int) (EvAll.cons (Ev.bin (Op2.div (by decide) (by decide)) (Ev.var hk) Ev.int) EvAll.nil)) (by simp; decide)) r'.hd rfl rfl fun s₅ F => ?_)
    have F := F.norm [("kind", .int (n.fmod 4)), ("choice", .int (n.fdiv 4)), ("lines", .own a), ("blocks", .lst (natsDt b))] ⟨rfl, rfl, rfl, rfl, trivial⟩
    have hu := r'.un
    refine execs_cons' (F.assignCompT [("blocks", .lst (natsDt b))] lnTup (fun d => deqs ((natsDt b).take (lnBl d).length) (lnBl d)) lnF (l := (usableOf ls b).map Fm.dt) fe r'.hd (by rfl) (EvIt.own r'.hd (Ev.var hk) (by simp)) (by rw [hlsl, z]; omega) ⟨rfl, trivial⟩
      (fun d hd => ?_) (fun e' X' g' hX d hd => ?_) (fun e' X' g' hX d hd hp => ?_) (usable_comp ls b) rfl (fun s₆ F => ?_) (hsw := swaps_ok fe rfl (by rfl)))
    · obtain ⟨l, hl, rfl⟩ := List.mem_map.mp hd
      exact ⟨rfl, rfl⟩
    · obtain ⟨l, hl, rfl⟩ := List.mem_map.mp hd
      have h3 := hbl l hl
      refine EvT.eq (EvT.cmp (Op2.eq (d := .lst ((natsDt b).take l.bl.length)) (d' := .lst (natsDt l.bl)) 1 ?_ (by omega)) (Ev.eq (Ev.slice (d₁ := .lst (natsDt b)) (hi := some (l.bl.length : Nat)) (OpS.lst (by rw [natsDt_len, z]; omega)) (Ev.var g'.1.k) EvP.none
        (EvP.some (Ev.eq (Ev.call g'.1 (g'.2 _ rfl) (gl_len _) (.blt _) (EvAll.cons (Ev.var g'.1.k) EvAll.nil) (OpC.len (ds := natsDt l.bl) (by rw [natsDt_len]; omega))) (by rw [natsDt_len])))) (by rw [cut_take])) (Ev.var g'.1.k)) ?_
      · rw [natsDt_take]; simp only [dkin, nats_dkins]
      · show deqs _ _ = deqs ((natsDt b).take (natsDt l.bl).length) (natsDt l.bl)
        rw [natsDt_len]
    · obtain ⟨l, hl, rfl⟩ := List.mem_map.mp hd
      exact Ev.var g'.1.k
    have F := F.norm [("kind", .int (n.fmod 4)), ("choice", .int (n.fdiv 4)), ("usable", .lst ((usableOf ls b).map Fm.dt)), ("lines", .own a), ("blocks", .lst (natsDt b))] ⟨rfl, rfl, rfl, rfl, rfl, trivial⟩
    have hul := usable_len ls b
    have husl : ((usableOf ls b).map Fm.dt).length = (usableOf ls b).length := by simp
    -- the new line
    let Γ₇ : List (Str × Dt) := [("blocks", .lst (natsDt (drawn1 ls b n).bl)), ("formula", (drawn1 ls b n).f.dt), ("choice", .int (n.fdiv 4)), ("lines", .own a)]
    refine execs_join (P := fun s₇ => Fn w s' (ownOf e [(a, [])]) e (wr ++ (a :: outOf e X)) [(a, lnsDt ls)] [("blocks", .lst (natsDt (drawn1 ls b n).bl)), ("formula", (drawn1 ls b n).f.dt), ("choice", .int (n.fdiv 4)), ("lines", .own a)] s₇) ?_ fun s₇ F => ?_
    · have hnil : deq (.lst ((usableOf ls b).map Fm.dt)) (.lst []) = decide (usableOf ls b = []) := by
        cases usableOf ls b with
        | nil => rfl
        | cons x r => simp [deq, deqs]
      have hnilb : deq (.lst (natsDt b)) (.lst []) = decide (b = []) := by
        cases b with
        | nil => rfl
        | cons x r => simp [deq, deqs, natsDt]
      have kin0 : ∀ l : List Dt, dkin 1 (.lst l) (.lst []) = true := fun l => by cases l <;> simp [dkin, dkins]
      refine F.if_ (EvT.and (EvT.cmp (Op2.lt (i := b.length) (j := 3)) (Ev.eq (Ev.call fe.g (fe.kd _ _ rfl) (gl_len _) (.blt _) (EvAll.cons (Ev.var hk) EvAll.nil) (OpC.len (ds := natsDt b) (by rw [natsDt_len]; omega))) (by rw [natsDt_len])) Ev.int)
        fun _ => EvT.and (EvT.or (EvT.cmp (Op2.eqi (i := n.fmod 4) (j := 0)) (Ev.var hk) Ev.int) fun _ => EvT.or (EvT.cmp (Op2.eq (d := .lst ((usableOf ls b).map Fm.dt)) (d' := .lst []) 1 (kin0 _) (by omega)) (Ev.var hk) (Ev.lst EvAll.nil (by simp)))
          fun _ => EvT.or (EvT.and (EvT.cmp (Op2.eqi (i := n.fmod 4) (j := 1)) (Ev.var hk) Ev.int) fun _ => EvT.and (EvT.cmp (Op2.eq (d := .lst (natsDt b)) (d' := .lst []) 1 (kin0 _) (by omega)) (Ev.var hk) (Ev.lst EvAll.nil (by simp))) fun _ => EvT.andN) fun _ => EvT.orN) fun _ => EvT.andN)
        (fun hb s₇ F => ?_) (fun hb s₇ F => ?_)
      · have hd1 : drawn1 ls b n = ⟨b ++ [ls.length], .v (ix3 (n.fdiv 4)), n.fdiv 4⟩ := by
          unfold drawn1
          dsimp only
          rw [if_pos]
          rw [hnil, hnilb] at hb
          simp at hb
          exact ⟨by omega, hb.2⟩
        rw [hd1]
        refine execs_cons' (F.assign (d := .lst (natsDt (b ++ [ls.length]))) (Ev.eq (Ev.bin (Op2.addL (ds := natsDt b) (es := [.int (ls.length : Nat)]) (by rw [natsDt_len, z]; simp; omega)) (Ev.var hk) (Ev.lst (EvAll.cons (Ev.eq (Ev.lenOwn (a := a) (ds := lnsDt ls) fe.g (fe.kd _ _ rfl) (by simp) (Ev.var hk) (by rw [hlsl]; omega)) (by rw [hlsl])) EvAll.nil) (by simp; decide))) (by simp [natsDt])) hk (fe.loc (.inr rfl)) fun s₈ F => ?_)
        refine execs_cons' (F.assign (d := (Fm.v (ix3 (n.fdiv 4))).dt) (Ev.tup (EvAll.cons (Ev.sub (d₁ := .str "pqr") (Op2.idxS (ix3_at (n.fdiv 4)).1 (ix3_at (n.fdiv 4)).2 (by decide)) Ev.str (Ev.bin (Op2.mod (by decide)) (Ev.var hk) Ev.int)) EvAll.nil) (by simp; decide)) hk (fe.loc (.inl rfl)) fun s₉ F => ?_)
        exact execs_nil' ⟨rfl, F.norm _ ⟨rfl, rfl, rfl, rfl, trivial⟩⟩
      · have hd0 : ¬(b.length < 3 ∧ (n.fmod 4 = 0 ∨ usableOf ls b = [] ∨ (n.fmod 4 = 1 ∧ b = []))) := by
          rw [hnil, hnilb] at hb
          intro h
          have : ((↑b.length : Int) < 3) := by omega
          simp [this] at hb
          obtain ⟨h1, h2⟩ := h
          rcases h2 with h2 | h2 | ⟨h2, h3⟩
          · exact hb.1 h2
          · exact hb.2.1 h2
          · exact hb.2.2 h2 h3
        have hls : ls ≠ [] := fun q => by
          have hb := hg.nil q
          refine hd0 ⟨by rw [hb]; simp, .inr (.inl ?_)⟩
          rw [q]; rfl
        have hus := usable_ne hg hls
        have hpos : 0 < ls.length := List.length_pos_iff.mpr hls
        have hupos : 0 < (usableOf ls b).length := List.length_pos_iff.mpr hus
        refine execs_cons' (F.if_ (EvT.cmp (Op2.eqi (i := n.fmod 4) (j := 1)) (Ev.var hk) Ev.int) (fun h1 s₇ F => ?_) fun h1 s₇ F => ?_)
        · have h1 : n.fmod 4 = 1 := by simpa using h1
          have hbne : b ≠ [] := fun q => hd0 ⟨by rw [q]; simp, .inr (.inr ⟨h1, q⟩)⟩
          have hd1 : drawn1 ls b n = ⟨b.dropLast, .bin false (lnAt ls (b.getLastD 0)).f (lnAt ls (ls.length - 1)).f, n.fdiv 4⟩ := by
            unfold drawn1
            dsimp only
            rw [if_neg hd0, if_pos h1]
          have hbl : b.getLastD 0 < ls.length := hg.bl _ (by rw [List.getLastD_eq_getLast?, List.getLast?_eq_some_getLast hbne]; exact List.getLast_mem hbne)
          rw [hd1]
          have hx : ∀ l : Ln, seqIndex? 1 [Dt.lst (natsDt l.bl), l.f.dt, .int l.c].length = some 1 ∧ [Dt.lst (natsDt l.bl), l.f.dt, .int l.c][1]? = some l.f.dt := fun l => ⟨rfl, rfl⟩
          refine execs_cons' (F.assign (d := (Fm.bin false (lnAt ls (b.getLastD 0)).f (lnAt ls (ls.length - 1)).f).dt) (Ev.tup (EvAll.cons Ev.str (EvAll.cons
            (Ev.sub (d₁ := (lnAt ls (b.getLastD 0)).dt) (Op2.idxT (hx _).1 (hx _).2 (by simp)) (Ev.subOwn (a := a) (ds := lnsDt ls) (by simp) (Ev.var hk) (Ev.sub (d₁ := .lst (natsDt b)) (Op2.idxL (last_ix hbne).1 (last_ix hbne).2 (by rw [natsDt_len]; omega)) (Ev.var hk) (Ev.neg Ev.int)) (by rw [hlsl]; exact seqIndex_nat hbl) (lnsDt_at hbl) (by rw [hlsl]; omega)) Ev.int) (EvAll.cons
            (Ev.sub (d₁ := (lnAt ls (ls.length - 1)).dt) (Op2.idxT (hx _).1 (hx _).2 (by simp)) (Ev.subOwn (a := a) (ds := lnsDt ls) (j := ls.length - 1) (by simp) (Ev.var hk) (Ev.neg Ev.int) (by rw [hlsl]; unfold seqIndex?; simp; omega) (lnsDt_at (by omega)) (by rw [hlsl]; omega)) Ev.int) EvAll.nil))) (by simp; decide)) hk (fe.loc (.inl rfl)) fun s₈ F => ?_)
          refine execs_cons' (F.assign (d := .lst (natsDt b.dropLast)) (Ev.eq (Ev.slice (d₁ := .lst (natsDt b)) (hi := some (-1)) (OpS.lst (by rw [natsDt_len, z]; omega)) (Ev.var hk) EvP.none (EvP.some (Ev.neg Ev.int))) (by rw [cut_dropLast, natsDt_dropLast])) hk (fe.loc (.inr rfl)) fun s₉ F => ?_)
          exact execs_nil' (execs_nil' ⟨rfl, F.norm _ ⟨rfl, rfl, rfl, rfl, trivial⟩⟩)
        · have h1 : ¬ n.fmod 4 = 1 := by simpa using h1
          refine execs_cons' (F.if_ (EvT.cmp (Op2.eqi (i := n.fmod 4) (j := 2)) (Ev.var hk) Ev.int) (fun h2 s₇ F => ?_) fun h2 s₇ F => ?_)
          · have h2 : n.fmod 4 = 2 := by simpa using h2
            have hd1 : drawn1 ls b n = ⟨b, .bin true (pickF (usableOf ls b) (n.fdiv 4)) (pickF (usableOf ls b) ((n.fdiv 4).fdiv (usableOf ls b).length)), n.fdiv 4⟩ := by
              unfold drawn1
              dsimp only
              rw [if_neg hd0, if_neg h1, if_pos h2]
            rw [hd1]
            have hlenE : ∀ {Γ : List (Str × Dt)} {X Ow p q}, Γ.lookup ("usable" : Str) = some (Dt.lst ((usableOf ls b).map Fm.dt)) → ∀ p₂, Ev w (A.deeper e) e X Ow Γ (.Call (.Name "len" p) [.Name "usable" p₂] [] q) (.int ((usableOf ls b).length : Nat)) := fun hl p₂ =>
              Ev.eq (Ev.call fe.g (fe.kd _ _ rfl) (gl_len _) (.blt _) (EvAll.cons (Ev.var hk hl) EvAll.nil) (OpC.len (ds := (usableOf ls b).map Fm.dt) (by rw [husl]; omega))) (by rw [husl])
            refine execs_cons' (F.assign (d := (Fm.bin true (pickF (usableOf ls b) (n.fdiv 4)) (pickF (usableOf ls b) ((n.fdiv 4).fdiv (usableOf ls b).length))).dt) (Ev.tup (EvAll.cons Ev.str (EvAll.cons
              (Ev.sub (d₁ := .lst ((usableOf ls b).map Fm.dt)) (Op2.idxL (i := (n.fdiv 4).fmod (usableOf ls b).length) (by have := (pick_ix hus (n.fdiv 4)).1; rw [husl] at this ⊢; exact this) (pick_ix hus (n.fdiv 4)).2 (by rw [husl]; omega)) (Ev.var hk) (Ev.bin (Op2.mod (by omega)) (Ev.var hk) (hlenE rfl _))) (EvAll.cons
              (Ev.sub (d₁ := .lst ((usableOf ls b).map Fm.dt)) (Op2.idxL (i := ((n.fdiv 4).fdiv (usableOf ls b).length).fmod (usableOf ls b).length) (by have := (pick_ix hus ((n.fdiv 4).fdiv (usableOf ls b).length)).1; rw [husl] at this ⊢; exact this) (pick_ix hus _).2 (by rw [husl]; omega)) (Ev.var hk)
                (Ev.bin (Op2.mod (by omega)) (Ev.bin (Op2.div (by omega) (by omega)) (Ev.var hk) (hlenE rfl _)) (hlenE rfl _))) EvAll.nil))) (by simp; decide)) hk (fe.loc (.inl rfl)) fun s₈ F => ?_)
            exact execs_nil' (execs_nil' (execs_nil' ⟨rfl, F.norm _ ⟨rfl, rfl, rfl, rfl, trivial⟩⟩))
          · have h2 : ¬ n.fmod 4 = 2 := by simpa using h2
            have hd1 : drawn1 ls b n = ⟨b, taken (usableOf ls b) (n.fdiv 4), n.fdiv 4⟩ := by
              unfold drawn1
              dsimp only
              rw [if_neg hd0, if_neg h1, if_neg h2]
            rw [hd1]
            refine execs_cons' (F.assign (Ev.call fe.g (fe.kd _ _ rfl) (gl_law_taken _) (.fn (fn200 _)) (EvAll.cons (Ev.var hk) (EvAll.cons (Ev.var hk) EvAll.nil)) (op_taken (usableOf ls b) (n.fdiv 4) hupos (by omega) 6 (fun f hf => ?_) (r'.less))) hk (fe.loc (.inl rfl)) fun s₈ F => ?_)
            · have := (usable_ok hg hf).2; omega
            · exact execs_nil' (execs_nil' (execs_nil' ⟨rfl, F.norm _ ⟨rfl, rfl, rfl, rfl, trivial⟩⟩))
    · refine execs_cons' (F.append (ds := lnsDt ls) (d := (drawn1 ls b n).dt) (Ev.var hk) (by simp) hK ?_ (by rw [hlsl, z]; omega) (fun s₈ F => ?_) (hi := fe.inter))
      · have hc : (drawn1 ls b n).c = n.fdiv 4 := by
          unfold drawn1
          dsimp only
          split
          · rfl
          · split
            · rfl
            · split <;> rfl
        refine Ev.eq (Ev.tup (ds := [.lst (natsDt (drawn1 ls b n).bl), (drawn1 ls b n).f.dt, .int (n.fdiv 4)]) (EvAll.cons (Ev.var hk) (EvAll.cons (Ev.var hk) (EvAll.cons (Ev.var hk) EvAll.nil))) (by simp; decide)) ?_
        rw [← hc]; rfl
      · refine execs_nil' ⟨_, _, ⟨ls ++ [drawn1 ls b n], (drawn1 ls b n).bl, ?_, ⟨rfl, rfl, trivial⟩, hg.step n, by simp, hdr⟩, ?_, F⟩
        · simp [setOw, lnsDt]
        · simp [setOw]
  · obtain ⟨ls, b, rfl, hΓ, hg, hl, hdr⟩ := hI
    have F := F.norm _ hΓ
    rw [List.drop_eq_nil_of_le (by simp)] at hdr
    have hdr : ls = drawnL ns := hdr
    subst hdr
    refine execs_cons' (F.ret (d := .own a) (Ev.var hk) fun v s₅ F iv => ⟨F.kept hown, Is.ofOwn F (ds := lnsDt (drawnL ns)) (by simp) iv (fun b hb => ?_) fun h => haX ?_⟩)
    · exact List.mem_cons_of_mem _ (List.mem_cons_of_mem _ (List.mem_append_right _ hb))
    · exact List.mem_cons_of_mem _ (List.mem_append_right _ h)
end
end Mine

namespace Mine
open PySem PySem.W PyProof.Rows PySem.SeqAt

/-! ## the signs of a text -/
noncomputable def visL : List Nat := [40, 41, 43, 45, 80, 81, 82, 112, 113, 114, 119823, 119824, 119825, 119875, 119876, 119877, 120239, 120240, 120241]
noncomputable def hidL : List Nat := [173, 8203, 65279, 8288, 6155]
noncomputable def m3 (c : Nat) : Nat :=
  if [80, 112, 119823, 119875, 120239].contains c then 112 else if [81, 113, 119824, 119876, 120240].contains c then 113 else if [82, 114, 119825, 119877, 120241].contains c then 114 else c

/-! ## the set -/
noncomputable def b1ents (P : Params) : List (Int × Value) := match (o102 P).data with | .set es _ _ => es.toList | _ => []
noncomputable def isIntB (k : Int) : Value → Bool := Value.isInt k
theorem b1_ok (P : Params) : (b1ents P).all (fun e => (match e.2 with | .int k _ => e.1 == hashInt k | _ => false) && e.2.scannable) = true := by kernel_rfl
noncomputable def inB1 (P : Params) (k : Int) : Bool := (b1ents P).any fun e => Value.isInt k e.2
theorem b1_at (P : Params) : (visL ++ hidL).all (fun c => inB1 P (c : Int) == decide (c ∈ hidL)) = true := by kernel_rfl
section
variable {w : World} {A : Around} {s₀ : Shared} {Mu : List Addr} {e : Env} {X : List Addr} {Ow : Owns} {Γ : List (Str × Dt)} {s : Shared}
theorem Wd.b1 {h : Heap} (a : Wd w h) : ∃ n, h.SetOf (intKind pw w) 102 (inB1 w.params) n := by
  refine ⟨(b1ents w.params).toArray.size, o102 w.params, (b1ents w.params).toArray, 29, ⟨127, [0, 1, 2, 3, 4, 5, 6, 7, 8, 9, 10, 11, 12, 13, 14, 15, 16, 17, 18, 19, 20, 21, 22, 45, 79, 96, 127].toArray, [].toArray, 0, !w.params.followText "set-order", 2, true⟩, a 102 _ rfl, ⟨rfl, rfl, rfl⟩, ?_, fun x hx => ?_, fun k => ?_, ?_, ?_, rfl⟩
  · rfl
  · have := List.all_eq_true.mp (b1_ok w.params) x hx
    simp only [Bool.and_eq_true] at this
    refine ⟨?_, this.2⟩
    obtain ⟨h1, h2⟩ := this
    obtain ⟨hsh, v⟩ := x
    cases v with
    | int k t =>
      refine ⟨k, ?_, ?_⟩
      · simp [intKind, Value.isInt]
      · simpa [intKind] using h1
    | _ => exact absurd h1 (by simp)
  · unfold inB1
    rw [List.any_eq_true]
    exact Iff.rfl
  · have : (b1ents w.params).toArray.size = 27 := by kernel_rfl
    rw [this]; decide
  · kernel_rfl
/-- a name of the text's own that is an object -/
theorem Ev.glob {x : Str} {a : Addr} {p : Pos} (g : GEnv e) (hk : e.kindOf x = some .globalImplicit) (hv : GlobV w.params x (.ref a)) (hd : (x == ("__debug__" : Str)) = false := by rfl) : Ev w A e X Ow Γ (.Name x p) (.own a) := .mk fun s c =>
  hv.load g hk c.wd ⟨Kp.refl s, by simp only [Is]⟩ hd
theorem Op2.inB1 {k : Int} : Op2 w A X (compareOp .In) (.int k) (.own 102) (.bool (Mine.inB1 w.params k)) := .mk fun s a b _ wd _ h₁ h₂ => by
  simp only [Is] at h₁ h₂; obtain ⟨t, rfl⟩ := h₁; subst h₂
  obtain ⟨n, hS⟩ := wd.b1
  exact wpAny_inSet_of (knd := intKind pw w) (k := k) (by simp [intKind, Value.isInt]) rfl hS ⟨Kp.tok _ _, by simp only [Is]⟩
set_option maxHeartbeats 1000000 in
theorem op_b1 {c : Nat} (hc : c ∈ visL ++ hidL) (r : Room 1 A) : OpC w A X (.ref 112) [.str (S [c])] (.bool (decide (c ∈ hidL))) := .mk fun s vs tk wd x i => by
  obtain ⟨v, rfl, iv⟩ := i.one
  refine call_fn (names := ["code"]) (fn112 _) r tk wd x i rfl rfl (by rfl) (by decide) fun e s₁ he r' hown F => ?_
  have fe : Fe (fScope (top 7)).names e := by subst he; exact Fe.of (fn112 _)
  clear he
  have hk := fe.hk
  have hb : Mine.inB1 w.params (c : Int) = decide (c ∈ hidL) := by
    have := List.all_eq_true.mp (b1_at w.params) c hc
    exact eq_of_beq this
  refine execs_cons' (F.ret (d := .bool (decide (c ∈ hidL))) (Ev.eq (Ev.cmp (Op2.inB1 (k := (c : Int))) (Ev.call fe.g (fe.kd _ _ rfl) (gl_ord _) (.blt _) (EvAll.cons (Ev.var hk) EvAll.nil) (OpC.ord (c := c) rfl)) (Ev.glob fe.g (fe.kd _ _ rfl) (gl_b1_set _))) (by rw [hb])) fun v s₅ F iv => ⟨F.kept hown, iv.less fun a ha => List.mem_cons_of_mem _ (List.mem_append_right _ ha)⟩)

/-! ## the table -/
theorem b3_ok : b3ents.all (fun e => match e.key with | .int k _ => e.hash == hashInt k | _ => false) = true := by kernel_rfl
noncomputable def b3f (k : Int) : Option Value := (b3ents.find? fun e => Value.isInt k e.key).map (·.val)
noncomputable def b3chk (c : Nat) : Option Value → Bool
  | some (.str x _) => x == S [m3 c]
  | none => Txt.lower (S [c]) == S [m3 c] && !Builtin.Str.tooLong (Txt.lower (S [c])).length
  | _ => false
theorem b3_at : visL.all (fun c => b3chk c (b3f (c : Int))) = true := by kernel_rfl
theorem Wd.b3 {h : Heap} (a : Wd w h) : h.MapOf (intKind pw w) 113 b3f := by
  refine ⟨o113 w.params, b3ents.toArray, 650, a 113 _ rfl, ⟨rfl, rfl, rfl⟩, rfl, fun e he => ?_, fun k => ?_⟩
  · have := List.all_eq_true.mp b3_ok e (by simpa using he)
    obtain ⟨hsh, key, val⟩ := e
    cases key with
    | int k t =>
      refine ⟨k, ?_, ?_⟩
      · simp [intKind, Value.isInt]
      · simpa [intKind] using this
    | _ => exact absurd this (by simp)
  · unfold findBy b3f
    rw [List.find?_toArray]; rfl
/-- b3_exceptions.get(k) -/
theorem Ev.b3get {o arg : Expr} {apos pos : Pos} {k : Int} {d : Dt} (ho : Ev w A e X Ow Γ o (.own 113)) (ha : Ev w A e X Ow Γ arg (.int k)) (hd : ∀ (h : Heap), Is h X d ((b3f k).getD .none))
    (hbase : attributeBase o "get" e (eval o e) = eval o e := by rfl)
    (htrees : backTo pos (starEach [arg] e) = [(false, eval arg e)] := by rfl)
    (hfew : ((backTo pos (starEach [arg] e)).all (fun x => !x.1) && (backToKw pos (keywordEach [] e)).all (fun x => x.1.isSome)
      && decide (([arg] : List Expr).length + ([] : List Keyword).length + (if ([] : List Keyword).isEmpty then 0 else 1) < 30)) = true := by rfl)
    (hline : (apos.endLine == pos.line) = true := by rfl) : Ev w A e X Ow Γ (.Call (.Attribute o "get" apos) [arg] [] pos) d := .mk fun s c => by
  refine wpAny_Call_method hbase hfew hline F.plainAttrs_dict F.slot_dict_get F.type_dict_get (ho.use c fun v s₁ k₁ c₁ i₁ => ?_)
  simp only [Is] at i₁
  subst i₁
  have m := c₁.wd.b3
  refine ⟨m.typeIs, m.noDict, ?_⟩
  rw [htrees]
  exact wpAny_dict_get1 rfl (ha.use c₁ fun x s₂ k₂ c₂ i₂ => by
    simp only [Is] at i₂
    obtain ⟨t, rfl⟩ := i₂
    exact ⟨k, b3f, by simp [intKind, Value.isInt], c₂.wd.b3, (k₁.trans k₂).trans (Kp.tok _ _), hd _⟩)
theorem Op2.isNotNone {d : Dt} {b : Bool} (hb : ∀ h v, Is h X d v → (v == Value.none) = !b) : Op2 w A X (compareOp .IsNot) d .none (.bool b) := .mk fun s a b' _ _ _ h₁ h₂ => by
  simp only [Is] at h₂; subst h₂
  refine isNot_none ⟨Kp.refl s, ?_⟩
  rw [hb _ _ h₁]
  simp only [Is, Bool.not_not]
set_option maxHeartbeats 1000000 in
theorem op_b3 {c : Nat} (hc : c ∈ visL) (r : Room 1 A) : OpC w A X (.ref 158) [.str (S [c])] (.str (S [m3 c])) := .mk fun s vs tk wd x i => by
  obtain ⟨v, rfl, iv⟩ := i.one
  refine call_fn (names := ["code"]) (fn158 _) r tk wd x i rfl rfl (by rfl) (by decide) fun e s₁ he r' hown F => ?_
  have fe : Fe (fScope (top 9)).names e := by subst he; exact Fe.of (fn158 _)
  clear he
  have hk := fe.hk
  have hb := List.all_eq_true.mp b3_at c hc
  have dat : (∃ t, b3f (c : Int) = some (.str (S [m3 c]) t)) ∨ (b3f (c : Int) = none ∧ Txt.lower (S [c]) = S [m3 c] ∧ Builtin.Str.tooLong (Txt.lower (S [c])).length = false) := by
    generalize b3f (c : Int) = f at hb
    match f with
    | none =>
      simp only [b3chk, Bool.and_eq_true, Bool.not_eq_true'] at hb
      exact .inr ⟨rfl, eq_of_beq hb.1, hb.2⟩
    | some v =>
      cases v with
      | str x t => exact .inl ⟨t, by rw [eq_of_beq (show (x == S [m3 c]) = true from hb)]⟩
      | _ => exact absurd hb (by simp [b3chk])
  rcases dat with ⟨t, dat⟩ | ⟨dat, hlow, hfit⟩
  · refine execs_cons' (F.assign (d := .str (S [m3 c])) (Ev.b3get (k := (c : Int)) (Ev.glob fe.g (fe.kd _ _ rfl) (gl_b3_exceptions _)) (Ev.call fe.g (fe.kd _ _ rfl) (gl_ord _) (.blt _) (EvAll.cons (Ev.var hk) EvAll.nil) (OpC.ord (c := c) rfl)) fun h => by rw [dat]; simp only [Is]; exact ⟨t, rfl⟩) hk (.inl (fe.kd _ _ rfl)) fun s₂ F => ?_)
    refine execs_cons' (F.if_ (b := true) (EvT.cmp (Op2.isNotNone fun h v i => ?_) (Ev.var hk) Ev.none) (fun _ s₃ F => ?_) fun h => by cases h)
    · simp only [Is] at i; obtain ⟨t, rfl⟩ := i; rfl
    · exact execs_cons' (F.ret (Ev.var hk) fun v s₅ F iv => ⟨F.kept hown, iv.less fun a ha => List.mem_cons_of_mem _ (List.mem_append_right _ ha)⟩)
  · refine execs_cons' (F.assign (d := .none) (Ev.b3get (k := (c : Int)) (Ev.glob fe.g (fe.kd _ _ rfl) (gl_b3_exceptions _)) (Ev.call fe.g (fe.kd _ _ rfl) (gl_ord _) (.blt _) (EvAll.cons (Ev.var hk) EvAll.nil) (OpC.ord (c := c) rfl)) fun h => by rw [dat]; simp only [Is]; rfl) hk (.inl (fe.kd _ _ rfl)) fun s₂ F => ?_)
    refine execs_cons' (F.if_ (b := false) (EvT.cmp (Op2.isNotNone fun h v i => ?_) (Ev.var hk) Ev.none) (fun h => by cases h) fun _ s₃ F => execs_nil' ?_)
    · simp only [Is] at i; subst i; rfl
    · exact execs_cons' (F.ret (d := .str (S [m3 c])) (Ev.eq (Ev.meth0 strT PySem.F.plainAttrs_str PySem.F.slot_str_lower PySem.F.type_str_lower (Ev.var hk) (OpC.lower hfit)) (by rw [hlow])) fun v s₅ F iv => ⟨F.kept hown, iv.less fun a ha => List.mem_cons_of_mem _ (List.mem_append_right _ ha)⟩)
end
end Mine

namespace Mine
open PySem PySem.W PyProof.Rows PySem.SeqAt

/-! ## the class -/
noncomputable def wsMap (P : Params) (x : Str) : Option Value := nsFind (entriesOf (o82 P)).toArray x
section
variable {w : World} {A : Around} {s₀ : Shared} {Mu : List Addr} {en : List (Str × NameKind)} {e : Env} {X : List Addr} {Ow : Owns} {Γ : List (Str × Dt)} {s : Shared}
theorem Wd.cls {h : Heap} (a : Wd w h) : h.get? 83 = some (excClassObj "Whitespace" "Whitespace" 83 82 [.type "object"] [.type "object"] true [] [] false Option.none Option.none Option.none Option.none (some (.str "Whitespace" 196)) (some (.str "Whitespace" 204)) (some (.bool true)) "object.__new__") := a 83 _ rfl
theorem Wd.clsNs {h : Heap} (a : Wd w h) : h.Ns 82 (wsMap w.params) := ns_of (es := entriesOf (o82 w.params)) (a 82 _ rfl) (by rfl)
theorem IsInst.inst {h : Heap} {a dx : Addr} {m : Str → Option Value} (i : IsInst h a dx m) : h.Inst a 83 m := by
  obtain ⟨⟨o, ho, hc, hd, hn⟩, hne, hns, _⟩ := i
  exact ⟨o, ho, hc, hn, .inr ⟨dx, hd, hne, hns⟩⟩
theorem handed {h : Heap} {d : Dt} {v : Value} (i : Is h X d v) : handedOut v = pure v := by
  cases d <;> simp only [Is] at i
  case none => subst i; rfl
  case bool => subst i; rfl
  case int => obtain ⟨t, rfl⟩ := i; rfl
  case str => obtain ⟨t, rfl⟩ := i; rfl
  case bytes => obtain ⟨t, rfl⟩ := i; rfl
  case tup => obtain ⟨a, vs, rfl, _⟩ := i; rfl
  case lst => obtain ⟨a, vs, rfl, _⟩ := i; rfl
  case inst => obtain ⟨a, dx, m, vs, rfl, _⟩ := i; rfl
  case own => subst i; rfl
theorem plain_name {P : Params} {name : Str} (h : name ∈ wsNames) : wsMap P name = Option.none ∧ typeLookup (.type "object") name = pure Option.none := by
  simp only [wsNames, List.mem_cons, List.not_mem_nil, or_false] at h
  rcases h with rfl | rfl | rfl | rfl | rfl
  all_goals exact ⟨by kernel_rfl, by rw [typeLookup_type, builtinLookup_eq_fast]; kernel_rfl⟩
theorem ws_special {P : Params} : wsMap P "__getattribute__" = Option.none ∧ wsMap P "__getattr__" = Option.none ∧ wsMap P "__setattr__" = Option.none ∧ wsMap P "__init__" = some (.ref 38) := ⟨by kernel_rfl, by kernel_rfl, by kernel_rfl, by kernel_rfl⟩
theorem map_nth {m : Str → Option Value} : ∀ {l : List Str} {vs : List Value}, l.map m = vs.map some → ∀ {i : Nat} {x : Str}, l[i]? = some x → ∃ v, vs[i]? = some v ∧ m x = some v
  | [], vs, h, i, x, hx => by simp at hx
  | y :: l, [], h, i, x, hx => by simp at h
  | y :: l, v :: vs, h, 0, x, hx => by
    simp only [List.map_cons, List.cons.injEq] at h
    simp at hx; subst hx
    exact ⟨v, rfl, h.1⟩
  | y :: l, v :: vs, h, i + 1, x, hx => by
    simp only [List.map_cons, List.cons.injEq] at h
    simpa using map_nth h.2 (by simpa using hx)

/-- x.name of a made thing -/
theorem Ev.attr {x name : Str} {px pos : Pos} {ds : List Dt} {d : Dt} (i : Nat) (ho : Ev w A e X Ow Γ (.Name x px) (.inst ds)) (hn : wsNames[i]? = some name := by rfl) (hd : ds[i]? = some d := by rfl) : Ev w A e X Ow Γ (.Attribute (.Name x px) name pos) d := .mk fun s c => by
  refine PyProof.Rows.Attribute_name (ho.use c fun o s₁ k₁ c₁ i₁ => ?_)
  simp only [Is] at i₁
  obtain ⟨a, dx, m, vs, rfl, ha, hdx, hi, hm, hs⟩ := i₁
  obtain ⟨v, hv, hmv⟩ := map_nth hm hn
  obtain ⟨v', hv', hiv⟩ := hs.nth hd
  rw [hv] at hv'; cases hv'
  have hp := plain_name (P := w.params) (List.mem_of_getElem? hn)
  obtain ⟨hh, g, dr, tk, os⟩ := s₁
  exact load_attr c₁.wd.cls c₁.wd.clsNs ws_special.1 hp.1 hp.2 hi.inst hmv (handed hiv) ⟨k₁.trans (Kp.tok _ _), hiv⟩

/-- a method of the text's own, by its function's contract -/
theorem getMethod_ws {o : Expr} {name : Str} {apos pos : Pos} {args : List Expr} {f : Addr} {fd : FuncData} {body : List Stmt} {Q : Value → Shared → Prop} {E : Value → Shared → Prop} {ds : List Dt} {y : Option Value}
    (ff : FnAt w.params f fd body) (hcls : ∃ d dt sl, (KK w.params).lookup f = some ⟨.type "function", d, dt, sl⟩) (hf : wsMap w.params name = some (.ref f)) (hB : typeLookup (.type "object") name = pure y) (hnn : name ∉ wsNames)
    (hbase : attributeBase o name e (eval o e) = eval o e)
    (hfew : ((backTo pos (starEach args e)).all (fun x => !x.1) && (backToKw pos (keywordEach [] e)).all (fun x => x.1.isSome)
      && decide (args.length + ([] : List Keyword).length + (if ([] : List Keyword).isEmpty then 0 else 1) < 30)) = true)
    (hline : (apos.endLine == pos.line) = true)
    (h : wpAny (model pw w) A (eval o e) (fun ov s₁ => Wd w s₁.heap ∧ Is s₁.heap X (.inst ds) ov ∧ wpAny (model pw w) A (evalArgs (.ref f) true (backTo pos (starEach args e)) []) (fun x s₂ => Wd w s₂.heap ∧ wpAny (model pw w) A (PySem.call (.ref f) ([ov] ++ x.pos) x.kw) Q E s₂) E s₁) E s) :
    wpAny (model pw w) A (eval (.Call (.Attribute o name apos) args [] pos) e) Q E s := by
  rw [arm_eval_Call, hbase]
  refine wpAny_bind (wpAny_mono h (fun ov s₁ h₁ => ?_) fun _ _ e => e)
  obtain ⟨wd, hi, hc⟩ := h₁
  refine wpAny_bind (wpAny_standAt ?_)
  have hform : methodCallForm (args.length + ([] : List Keyword).length) (backTo pos (starEach args e)) (backToKw pos (keywordEach [] e)) = true := hfew
  have hpos : methodCallPos true o e apos pos = pure pos := by unfold methodCallPos; simp [hline]
  unfold methodCall
  rw [hform]
  simp only [Is] at hi
  obtain ⟨a, dx, m, vs, rfl, ha, hdx, hi, hm, hs⟩ := hi
  obtain ⟨oc, od, sl, lk⟩ := ff.lk
  obtain ⟨d', dt', sl', lk'⟩ := hcls
  have hsh : m name = Option.none := hi.2.2.2 name hnn
  have hfo := wd _ _ lk'
  refine wpAny_bind (wpAny_holding ?_)
  obtain ⟨hh, g, dr, tk, os⟩ := s₁
  show wpAny _ _ (getMethod (.ref a) name _) _ _ _
  refine method_of wd.cls wd.clsNs ws_special.1 ws_special.2.1 hf hfo rfl hB hi.inst hsh ?_
  refine wpAny_bind (wpAny_of_eq hpos ?_)
  exact Calls.callWith_function (o := ⟨oc, od, .func fd, sl⟩) (fd := fd) (wpAny_mono hc (fun x s₂ h₂ => ⟨⟨h₂.1 _ _ lk, rfl⟩, h₂.2⟩) fun _ _ e => e)
theorem Ev.methI {o : Expr} {name : Str} {apos pos : Pos} {args : List Expr} {f : Addr} {fd : FuncData} {body : List Stmt} {ds as : List Dt} {d : Dt} {y : Option Value}
    (ff : FnAt w.params f fd body) (hcls : ∃ d dt sl, (KK w.params).lookup f = some ⟨.type "function", d, dt, sl⟩) (hf : wsMap w.params name = some (.ref f)) (hB : typeLookup (.type "object") name = pure y) (hnn : name ∉ wsNames)
    (ho : Ev w A e X Ow Γ o (.inst ds)) (ha : EvAll w A e X Ow Γ pos args as) (op : OpC w A X (.ref f) (.inst ds :: as) d)
    (hst : ∃ x r, backTo pos (starEach args e) = (false, x) :: r := by exact ⟨_, _, rfl⟩)
    (hbase : attributeBase o name e (eval o e) = eval o e := by rfl)
    (hfew : ((backTo pos (starEach args e)).all (fun x => !x.1) && (backToKw pos (keywordEach [] e)).all (fun x => x.1.isSome)
      && decide (args.length + ([] : List Keyword).length + (if ([] : List Keyword).isEmpty then 0 else 1) < 30)) = true := by rfl)
    (hline : (apos.endLine == pos.line) = true := by rfl) : Ev w A e X Ow Γ (.Call (.Attribute o name apos) args [] pos) d := .mk fun s c => by
  refine getMethod_ws (X := X) (ds := ds) ff hcls hf hB hnn hbase hfew hline (ho.use c fun v s₁ k₁ c₁ i₁ => ⟨c₁.wd, i₁, ?_⟩)
  obtain ⟨x, r, hst⟩ := hst
  have h := wpb (Q' := fun vs s' => Wd w s'.heap ∧ wpAny (model pw w) A (PySem.call (.ref f) ([v] ++ vs)) (fun v s' => Kp s s' ∧ Is s'.heap X d v) Bot s') (E := Bot) (ha.h s₁ c₁) fun vs s₂ ⟨k₂, i₂⟩ => by
    have c₂ := c₁.keep k₂
    exact ⟨c₂.wd, wpb (op.h s₂ (v :: vs) c₂.tk c₂.wd c₂.xin (by simp only [IsAll]; exact ⟨v, vs, rfl, i₁.keep k₂.ext, i₂⟩)) fun r s₃ ⟨k₃, i₃⟩ => ⟨(k₁.trans k₂).trans k₃, i₃⟩⟩
  rw [hst] at h ⊢
  exact Calls.evalArgs_plain h
theorem Ev.methI0 {o : Expr} {name : Str} {apos pos : Pos} {f : Addr} {fd : FuncData} {body : List Stmt} {ds : List Dt} {d : Dt} {y : Option Value}
    (ff : FnAt w.params f fd body) (hcls : ∃ d dt sl, (KK w.params).lookup f = some ⟨.type "function", d, dt, sl⟩) (hf : wsMap w.params name = some (.ref f)) (hB : typeLookup (.type "object") name = pure y) (hnn : name ∉ wsNames)
    (ho : Ev w A e X Ow Γ o (.inst ds)) (op : OpC w A X (.ref f) [.inst ds] d)
    (hbase : attributeBase o name e (eval o e) = eval o e := by rfl)
    (hfew : ((backTo pos (starEach [] e)).all (fun x => !x.1) && (backToKw pos (keywordEach [] e)).all (fun x => x.1.isSome)
      && decide (([] : List Expr).length + ([] : List Keyword).length + (if ([] : List Keyword).isEmpty then 0 else 1) < 30)) = true := by rfl)
    (hline : (apos.endLine == pos.line) = true := by rfl) : Ev w A e X Ow Γ (.Call (.Attribute o name apos) [] [] pos) d := .mk fun s c => by
  refine getMethod_ws (X := X) (ds := ds) ff hcls hf hB hnn hbase hfew hline (ho.use c fun v s₁ k₁ c₁ i₁ => ⟨c₁.wd, i₁, ?_⟩)
  exact PySem.evalArgs_none ⟨c₁.wd, wpb (op.h s₁ [v] c₁.tk c₁.wd c₁.xin (by simp only [IsAll]; exact ⟨v, _, rfl, i₁, rfl⟩)) fun r s₂ ⟨k₂, i₂⟩ => ⟨k₁.trans k₂, i₂⟩⟩
end
end Mine

namespace Mine
open PySem PySem.W PyProof.Rows PySem.SeqAt

theorem ws_reads (P : Params) : readsIn (KK P) 83 (.type "type") = true := by kernel_rfl
theorem ws_S (P : Params) : findCls (KK P) (.ref 83) (.type "type") "S" = some (.val (.str " " 209)) := by kernel_rfl
theorem ws_T (P : Params) : findCls (KK P) (.ref 83) (.type "type") "T" = some (.val (.str "\t" 210)) := by kernel_rfl
section
variable {w : World} {A : Around} {s₀ : Shared} {Mu : List Addr} {en : List (Str × NameKind)} {e : Env} {X : List Addr} {Ow : Owns} {Γ : List (Str × Dt)} {s : Shared}
/-- Whitespace.name: the class's own -/
theorem Ev.clsAttr {x name z : Str} {t : Tok} {px pos : Pos} (g : GEnv e) (hk : e.kindOf x = some .globalImplicit) (hv : GlobV w.params x (.ref 83)) (hr : findCls (KK w.params) (.ref 83) (.type "type") name = some (.val (.str z t)))
    (hd : (x == ("__debug__" : Str)) = false := by rfl) : Ev w A e X Ow Γ (.Attribute (.Name x px) name pos) (.str z) := .mk fun s c => by
  refine PyProof.Rows.Attribute_name (hv.load g hk c.wd ?_ hd)
  exact cls_value (K := KK w.params) (mc := .type "type") c.wd (ws_reads _) hr rfl ⟨Kp.tok _ _, by simp only [Is]; exact ⟨_, rfl⟩⟩

/-- a call with any end -/
theorem call_fnG {w : World} {A : Around} {X : List Addr} {fa : Addr} {fd : FuncData} {body : List Stmt} {vals : List Value} {ds : List Dt} {names : List Str} {s : Shared} {n : Nat} {R : Value → Shared → Prop}
    (f : FnAt w.params fa fd body) (r : Room (n + 1) A) (tk : 0 < s.toks) (wd : Wd w s.heap) (xin : Xin X s) (hi : IsAll s.heap X ds vals)
    (hbind : bindArgs fd ⟨vals, []⟩ = pure (names.zip vals)) (hlen : names.length = ds.length)
    (hkind : names.all (fun x => fd.scope.names.lookup x == some .local || (fd.scope.names.lookup x == some .cell && !(x == ("__classdict__" : Str)))) = true) (hnd : names.Nodup)
    (h : ∀ e s₁, e = callEnvC fd s.heap.objs.size fa → Room n (A.deeper e) → (∀ a ∈ ownOf e [], s.heap.get? a = none) → Fn w s (ownOf e []) e (outOf e X) [] (names.zip ds) s₁ →
      Wp w (A.deeper e) (execs body e) (fun fl s' => R (match fl with | .ret v => v | _ => .none) s') Bot s₁) :
    wpAny (model pw w) A (call (.ref fa) vals) R Bot s := by
  obtain ⟨oc, od, sl, lk⟩ := f.lk
  obtain ⟨c, co, cvs, ct, c1, c2, c3, c4⟩ := f.cd
  have hlen' : names.length = vals.length := hlen.trans hi.length.symm
  have hkeys : (names.zip vals).map (·.1) = names := by rw [List.map_fst_zip]; omega
  have hkd : ∀ x ∈ names, fd.scope.names.lookup x = some .local ∨ (fd.scope.names.lookup x = some .cell ∧ (x == ("__classdict__" : Str)) = false) := fun x hx => by
    have := List.all_eq_true.mp hkind x hx
    simp only [Bool.or_eq_true, Bool.and_eq_true, beq_iff_eq, Bool.not_eq_true'] at this
    exact this
  have hmem : ∀ x ∈ names.zip vals, x.1 ∈ names := fun x hx => by rw [← hkeys]; exact List.mem_map_of_mem hx
  refine wpAny_call ?_
  refine call_cellsT (by have := r.dp; omega) (wd _ _ lk) rfl wd.nolimit ⟨c, co, cvs, ct, c1, wd _ _ c2, c3, c4⟩ f.bd hbind f.clo (fun x hx => (hkd _ (hmem x hx)).imp id fun q => ⟨q.1, cellsFrom_some _ _ _ (.inl q.1)⟩) (fun s₁ htk ic => ?_) f.co f.gn f.kd
  generalize hE : callEnvC fd s.heap.objs.size fa = env at ic ⊢
  have hnone : ∀ a, s.heap.objs.size ≤ a → s.heap.get? a = none := fun a ha => by
    cases q : s.heap.get? a with
    | none => rfl
    | some o => exact absurd (Heap.lt_size q) (Nat.not_lt.mpr ha)
  have hce : env.cells = cellsFrom (s.heap.objs.size + 1) fd.scope.names [] := by rw [← hE]; rfl
  have hsc : env.scope = fd.scope := by rw [← hE]; rfl
  have hfresh := ic.toInCall.fresh
  have hkeep := ic.toInCall.keep
  have cellIs : ∀ {n : Str} {c : Addr}, (n, c) ∈ env.cells → env.cells.lookup n = some c := fun {n c} hm => by
    rw [hce] at hm ⊢; exact lookup_cells f.nd hm
  have hext : ∀ b o, b ∉ X → s.heap.get? b = some o → s₁.heap.get? b = some o ∧ b ∉ outOf env X := fun b o hb ho => by
    refine ⟨hkeep b o ho, fun hm => ?_⟩
    rcases List.mem_cons.mp hm with rfl | hm
    · rw [hnone _ hfresh] at ho; cases ho
    · rcases List.mem_append.mp hm with hm | hm
      · obtain ⟨p, hp, rfl⟩ := List.mem_map.mp hm
        rw [hnone p.2 (Nat.le_of_lt (Nat.lt_of_le_of_lt hfresh (ic.above p.1 p.2 hp)))] at ho; cases ho
      · exact hb hm
  have hown : ∀ a ∈ ownOf env [], s.heap.get? a = none := fun a ha => by
    rcases mem_ownOf.mp ha with rfl | ⟨p, hp, rfl⟩ | ⟨p, hp, rfl⟩
    · exact hnone _ hfresh
    · exact hnone _ (Nat.le_of_lt (Nat.lt_of_le_of_lt hfresh (ic.above p.1 p.2 hp)))
    · cases hp
  have F : Fn w s (ownOf env []) env (outOf env X) [] (names.zip ds) s₁ := by
    have kno : ∀ a, s.heap.get? a = none → (KK w.params).lookup a = none := fun a ha => by
      cases q : (KK w.params).lookup a with
      | none => rfl
      | some o => rw [wd a o q] at ha; cases ha
    refine { tk := Nat.lt_of_lt_of_le tk htk, tk0 := htk, wd := wd.keep hkeep, wl := kno _ (hnone _ hfresh), wc := fun p hp => kno _ (hnone _ (Nat.le_of_lt (Nat.lt_of_le_of_lt hfresh (ic.above p.1 p.2 hp)))), xin := fun a ha => ?_, ow := fun p hp => (nomatch hp), vars := fun p hp => ?_, same := ic.toInCall.same, keep0 := fun b o _ e => hkeep b o e, ns := ⟨_, ic.toInCall.ns⟩, cl := fun p hp => ⟨_, ic.cell p.1 p.2 (cellIs hp)⟩, lx := List.mem_cons_self, cx := fun p hp => ?_, lm := ⟨List.mem_cons_self, fun p hp => mem_ownOf.mpr (.inr (.inl ⟨p, hp, rfl⟩))⟩, ap := ic.apart, oo := fun p hp => (nomatch hp) }
    · rcases List.mem_cons.mp ha with rfl | ha
      · obtain ⟨o, _, _, ho, _⟩ := ic.toInCall.ns; exact ⟨o, ho⟩
      · rcases List.mem_append.mp ha with ha | ha
        · obtain ⟨p, hp, rfl⟩ := List.mem_map.mp ha
          obtain ⟨o, ho, _⟩ := ic.cell p.1 p.2 (cellIs hp)
          exact ⟨o, ho⟩
        · obtain ⟨o, ho⟩ := xin a ha; exact ⟨o, hkeep a o ho⟩
    · obtain ⟨v, hv, hvi⟩ := zip_pairs names ds vals hi p hp
      refine ⟨v, ?_, hvi.ext hext⟩
      have hx := hmem _ hv
      rcases hkd _ hx with q | ⟨q, qc⟩
      · exact .inl ⟨by rw [Env.kindOf, hsc]; exact q, _, ic.toInCall.ns, bindL_mem _ _ (by rw [hkeys]; exact hnd) _ _ hv (by rw [Env.kindOf, hsc]; exact q)⟩
      · have hsome : (env.cells.lookup p.1).isSome = true := by rw [hce]; exact cellsFrom_some _ _ _ (.inl q)
        obtain ⟨c, hc⟩ := Option.isSome_iff_exists.mp hsome
        refine .inr ⟨.inl (by rw [Env.kindOf, hsc]; exact q), qc, c, hc, ?_⟩
        have := ic.cell _ _ hc
        rwa [bindC_mem _ _ (by rw [hkeys]; exact hnd) _ _ hv (by rw [Env.kindOf, hsc, q]; simp)] at this
    · exact List.mem_cons_of_mem _ (List.mem_append_left _ (List.mem_map_of_mem hp))
  exact wpb (h env s₁ hE.symm r.deeper hown F).p fun fl s' h' => h'
theorem Fn.moreMu {Mu' : List Addr} (F : Fn w s₀ Mu e X Ow Γ s) (h : ∀ a ∈ Mu, a ∈ Mu') : Fn w s₀ Mu' e X Ow Γ s :=
  { F with keep0 := fun b o hb hbo => F.keep0 b o (fun q => hb (h b q)) hbo, lm := ⟨h _ F.lm.1, fun p hp => h _ (F.lm.2 p hp)⟩, oo := fun p hp => (F.oo p hp).imp (h _) id }

/-! ## a thing that is being made -/
/-- the attributes so far -/
structure Self (h : Heap) (X : List Addr) (a dx : Addr) (L : List (Str × Dt)) : Prop where
  ii : ∃ m, IsInst h a dx m ∧ (∀ p ∈ L, ∃ v, m p.1 = some v ∧ Is h X p.2 v)
theorem Self.keepBut {h h' : Heap} {a dx : Addr} {L : List (Str × Dt)} (S : Self h X a dx L) (k : ∀ b o, (b ∉ X ∨ b = dx) → h.get? b = some o → h'.get? b = some o) (ha : a ∉ X) : Self h' X a dx L := by
  obtain ⟨m, ⟨⟨n, ho, hon⟩, hne, ⟨o2, es, ep, ho2, r⟩, h0⟩, hl⟩ := S.ii
  exact ⟨m, ⟨⟨n, k a _ (.inl ha) ho, hon⟩, hne, ⟨o2, es, ep, k dx _ (.inr rfl) ho2, r⟩, h0⟩, fun p hp => let ⟨v, x, y⟩ := hl p hp; ⟨v, x, y.ext fun b o hb hbo => ⟨k b o (.inl hb) hbo, hb⟩⟩⟩
/-- the frame when an object beside it is changed -/
theorem Fn.beside {dx : Addr} {h' : Heap} {t : Tok} (F : Fn w s₀ Mu e X Ow Γ s) (hdX : dx ∈ X) (hMu : dx ∈ Mu ∨ s₀.heap.get? dx = Option.none) (hK : (KK w.params).lookup dx = Option.none) (hL : dx ≠ e.locals) (hC : ∀ p ∈ e.cells, dx ≠ p.2) (hO : ∀ p ∈ Ow, dx ≠ p.1)
    (hs : ∀ b o, b ≠ dx → s.heap.get? b = some o → h'.get? b = some o) (hd : ∃ o, h'.get? dx = some o) (ht : s.toks ≤ t) : Fn w s₀ Mu e X Ow Γ { s with heap := h', toks := t } := by
  have out : ∀ b o, b ∉ X → s.heap.get? b = some o → h'.get? b = some o ∧ b ∉ X := fun b o hb h => ⟨hs b o (fun q => hb (q ▸ hdX)) h, hb⟩
  refine { tk := Nat.lt_of_lt_of_le F.tk ht, tk0 := Nat.le_trans F.tk0 ht, wd := fun b o h => hs b o (fun q => by rw [q, hK] at h; cases h) (F.wd b o h), xin := fun b hb => ?_, ow := fun p hp => ?_, vars := fun p hp => ?_, cl := fun p hp => ?_, cx := F.cx, ap := F.ap, wc := F.wc, ns := ?_, lx := F.lx, wl := F.wl, same := ?_, keep0 := fun b o hb hbo => ?_, lm := F.lm, oo := F.oo }
  · by_cases q : b = dx
    · exact q ▸ hd
    · obtain ⟨o, h⟩ := F.xin b hb; exact ⟨o, hs b o q h⟩
  · obtain ⟨x, us, b, c⟩ := F.ow p hp
    exact ⟨x, us, b.at fun o h => hs _ o (Ne.symm (hO p hp)) h, c.ext out⟩
  · obtain ⟨v, x, y⟩ := F.vars p hp
    refine ⟨v, ?_, y.ext out⟩
    rcases x with ⟨x, m, ⟨o, es, ep, h, r⟩, c⟩ | ⟨x, b, c, d, o, h, hd⟩
    · exact .inl ⟨x, m, ⟨o, es, ep, hs _ o (Ne.symm hL) h, r⟩, c⟩
    · exact .inr ⟨x, b, c, d, o, hs _ o (Ne.symm (hC _ (mem_of_lookup d))) h, hd⟩
  · obtain ⟨v, o, h, hd⟩ := F.cl p hp
    exact ⟨v, o, hs _ o (Ne.symm (hC p hp)) h, hd⟩
  · obtain ⟨m, o, es, ep, h, r⟩ := F.ns
    exact ⟨m, o, es, ep, hs _ o (Ne.symm hL) h, r⟩
  · obtain ⟨h, t, e0⟩ := F.same
    exact ⟨h', _, by rw [e0]⟩
  · refine hs b o (fun q => ?_) (F.keep0 b o hb hbo)
    rcases hMu with x | x
    · exact hb (q ▸ x)
    · rw [q] at hbo; rw [x] at hbo; cases hbo
/-- self.name = .. -/
theorem Fn.setAttr {x name : Str} {px pa pos : Pos} {ex : Expr} {d : Dt} {a dx : Addr} {L : List (Str × Dt)} {Q : Flow → Shared → Prop} {E : Value → Shared → Prop} (F : Fn w s₀ Mu e X Ow Γ s) (hself : Ev w A e X Ow Γ (.Name x px) (.own a)) (he : Ev w A e X Ow Γ ex d) (S : Self s.heap X a dx L)
    (haX : a ∉ X) (hdX : dx ∈ X) (hMu : dx ∈ Mu ∨ s₀.heap.get? dx = Option.none) (hK : (KK w.params).lookup dx = Option.none) (hL : dx ≠ e.locals) (haC : a ≠ 83)
    (h : ∀ s', Fn w s₀ Mu e X Ow Γ s' → Self s'.heap X a dx ((name, d) :: L.filter fun p => !(p.1 == name)) → Q .next s')
    (hn : name ∈ wsNames := by decide)
    (hs : swapsWith ex (some (.Attribute (.Name x px) name pa)) pos.line e = pure false := by rfl) : Wp w A (exec (.Assign [.Attribute (.Name x px) name pa] ex pos) e) Q E s := .mk <| by
  refine plainObj_wpAny_Assign_Attribute (he.use F.toCx fun v s₁ k₁ c₁ i₁ => hself.use c₁ fun o s₂ k₂ c₂ i₂ => ?_) hs
  simp only [Is] at i₂
  subst i₂
  have iv := i₁.keep k₂.ext
  have F₂ := (F.kp k₁).kp k₂
  have S₂ := S.keepBut (h' := s₂.heap) (fun b o _ hb => k₂.ext _ _ (k₁.ext _ _ hb)) haX
  obtain ⟨m, hi, hl⟩ := S₂.ii
  have hp := plain_name (P := w.params) hn
  obtain ⟨⟨nn, ho, hoc, hod, hon⟩, hne, hns, h0⟩ := id hi
  obtain ⟨hh, g, dr, tk, os⟩ := s₂
  refine wpTk (R := fun _ s' => ∃ h' tk', s' = ⟨h', g, dr, tk', os⟩ ∧ (∀ b o, b ≠ dx → hh.get? b = some o → h'.get? b = some o) ∧ IsInst h' a dx (fun y => if y = name then some v else m y))
    (store_attr (ns := wsNames) PySem.F.store_object c₂.wd.cls c₂.wd.clsNs ws_special.2.2.1 hp.1 hp.2 haC hi.inst (fun h' tk' hI hk hsame => ?_) (fun y hy => ?_) (by decide)) fun _ s' htk hR => ?_
  · obtain ⟨o₁, ho₁, q1, q2, q3, q4⟩ := hsame _ ho
    have q5 : o₁.dict = some dx := q4 dx hod
    clear q4
    have hao : h'.get? a = some nn := by
      rw [ho₁]
      obtain ⟨c', d', dt', sl'⟩ := o₁
      obtain ⟨c2, d2, dt2, sl2⟩ := nn
      simp only at q1 q2 q3 q5 hod
      have hod' : d2 = some dx := hod
      have q4' : d' = some dx := q5
      subst q1 q2 q3 hod' q4'
      rfl
    refine ⟨h', tk', rfl, fun b o hb hbo => ?_, ⟨nn, hao, hoc, hod, hon⟩, hne, ?_, fun y hy => ?_⟩
    · by_cases q : b = a
      · subst q
        dsimp only at ho
        rw [ho] at hbo
        cases hbo; exact hao
      · refine hk b o q (fun o₀ dx' h1 h2 => ?_) hbo
        dsimp only at ho
        rw [ho] at h1; cases h1; rw [hod] at h2; cases h2; exact hb
    · obtain ⟨oI, hI1, _, _, hI4⟩ := hI
      rw [hao] at hI1; cases hI1
      rcases hI4 with ⟨q, _⟩ | ⟨d', q, _, hh'⟩
      · rw [hod] at q; cases q
      · rw [hod] at q; cases q; exact hh'
    · have : y ≠ name := fun q => hy (q ▸ hn)
      simp only [this, if_false]; exact h0 y hy
  · exact Classical.byContradiction fun q => hy (h0 y q)
  · obtain ⟨h', tk', rfl, hk, hI⟩ := hR
    have hcn : ∀ p ∈ e.cells, dx ≠ p.2 := fun p hp q => by
      obtain ⟨cv, o, h1, h2⟩ := F₂.cl p hp
      obtain ⟨o2, es, ep, h3, h4, _⟩ := hns
      rw [← q, h3] at h1; cases h1; rw [h4] at h2; cases h2
    have hon : ∀ p ∈ Ow, dx ≠ p.1 := fun p hp q => by
      obtain ⟨_, vs, ⟨n', h1⟩, _⟩ := F₂.ow p hp
      obtain ⟨o2, es, ep, h3, h4, _⟩ := hns
      rw [← q, h3] at h1; cases h1; cases h4
    have hdo : ∃ o, h'.get? dx = some o := by
      obtain ⟨_, _, ⟨o2, es, ep, h3, _⟩, _⟩ := hI; exact ⟨o2, h3⟩
    refine h _ (F₂.beside hdX hMu hK hL hcn hon hk hdo htk) ⟨_, hI, fun p hp => ?_⟩
    have out : ∀ b o, b ∉ X → hh.get? b = some o → h'.get? b = some o ∧ b ∉ X := fun b o hb h => ⟨hk b o (fun q => hb (q ▸ hdX)) h, hb⟩
    rcases List.mem_cons.mp hp with rfl | hp
    · exact ⟨v, by simp, iv.ext out⟩
    · obtain ⟨hp1, hp2⟩ := List.mem_filter.mp hp
      have hne' : p.1 ≠ name := by simpa using hp2
      obtain ⟨u, h1, h2⟩ := hl p hp1
      exact ⟨u, by simp only [hne', if_false]; exact h1, h2.ext out⟩
/-- a name that is a thing in the making: an attribute read -/
theorem Ev.selfAttr {x name : Str} {px pos : Pos} {a dx : Addr} {L : List (Str × Dt)} {d : Dt} {s : Shared} {Q : Value → Shared → Prop} {E : Value → Shared → Prop} (hself : Ev w A e X Ow Γ (.Name x px) (.own a)) (c : Cx w e X Ow Γ s) (S : Self s.heap X a dx L) (haX : a ∉ X) (hL : (name, d) ∈ L) (hn : name ∈ wsNames)
    (k : ∀ v s', Kp s s' → Cx w e X Ow Γ s' → Is s'.heap X d v → Q v s') : wpAny (model pw w) A (eval (.Attribute (.Name x px) name pos) e) Q E s := by
  refine PyProof.Rows.Attribute_name (hself.use c fun o s₁ k₁ c₁ i₁ => ?_)
  simp only [Is] at i₁
  subst i₁
  have S₁ := S.keepBut (h' := s₁.heap) (fun b o _ hb => k₁.ext _ _ hb) haX
  obtain ⟨m, hi, hl⟩ := S₁.ii
  obtain ⟨v, hv, iv⟩ := hl _ hL
  have hp := plain_name (P := w.params) hn
  obtain ⟨hh, g, dr, tk, os⟩ := s₁
  exact load_attr c₁.wd.cls c₁.wd.clsNs ws_special.1 hp.1 hp.2 hi.inst hv (handed iv) (k v _ (k₁.trans (Kp.tok _ _)) (c₁.keep (Kp.tok _ _)) iv)
end
end Mine

namespace Mine
open PySem PySem.W PyProof.Rows PySem.SeqAt

section
variable {w : World} {A : Around} {s₀ : Shared} {Mu : List Addr} {en : List (Str × NameKind)} {e : Env} {X : List Addr} {Ow : Owns} {Γ : List (Str × Dt)} {s : Shared}

theorem size_of_range' (a b : Int) : Builtin.Range.rangeSize a b 1 = ((b - a).toNat : Int) := by
  unfold Builtin.Range.rangeSize
  rw [if_pos (by decide)]
  split <;> omega
theorem small_range' {a b : Int} (h0 : 0 ≤ a) (h2 : a < 2 ^ 62) (h3 : 0 ≤ b) (h1 : b < 2 ^ 62) : Builtin.Range.small a b 1 = true := by
  unfold Builtin.Range.small
  rw [size_of_range']
  simp only [Builtin.Range.rangeFitsLong, Bool.and_eq_true, Bool.or_eq_true, decide_eq_true_eq]
  refine ⟨⟨⟨⟨?_, ?_⟩, ?_⟩, ?_⟩, .inr ?_⟩
  all_goals first | omega | (rw [if_pos (by decide)]; simp only [decide_eq_true_eq, Bool.and_eq_true]; omega)
theorem EvIt.range2' {tg : Expr} {p pos : Pos} {es : List Expr} {a b : Int} (gv : GEnv e) (hh : A.handled = none) (hk : e.kindOf "range" = some .globalImplicit) (hv : GlobV w.params "range" (.type "range"))
    (ha : EvAll w A e X Ow Γ pos es [.int a, .int b]) (h0 : 0 ≤ a) (h2 : a < 2 ^ 62) (h3 : 0 ≤ b) (h1 : b < 2 ^ 62)
    (hst : ∃ x r, backTo pos (starEach es e) = (false, x) :: r := by exact ⟨_, _, rfl⟩) (hpl : (backTo pos (starEach es e)).any (·.1) = false := by rfl) :
    EvIt w A e X Ow Γ tg (.Call (.Name "range" p) es [] pos) false (rangeDt a (b - a).toNat) := .mk fun s c => by
  obtain ⟨x, r, hst⟩ := hst
  refine wpAny_Call_NameR (hv.load gv hk c.wd ?_ rfl)
  refine callWith_fv (.ty _) c.wd hst hpl (wpb (ha.h s c) fun vs s₁ ⟨k₁, i₁⟩ => ?_)
  refine ⟨(c.keep k₁).wd, ?_⟩
  obtain ⟨v, v', rfl, iv, iv'⟩ := i₁.two
  simp only [Is] at iv iv'
  obtain ⟨t, rfl⟩ := iv
  obtain ⟨u, rfl⟩ := iv'
  refine call_range_2 ?_
  have kp : Kp s₁ { s₁ with heap := s₁.heap.push { cls := .type "range", data := .fields #[.int a t, .int b u, .int 1 s₁.toks] }, toks := s₁.toks + 1 } := Kp.mk' (fun b o h => Heap.get?_push_of_some _ h) (Nat.le_succ _)
  refine wpAny_pyIter_range (s := { s₁ with heap := s₁.heap.push { cls := .type "range", data := .fields #[.int a t, .int b u, .int 1 s₁.toks] }, toks := s₁.toks + 1 }) (IsRange.new _ _ _ _ _ _ _) (small_range' h0 h2 h3 h1) ?_
  rw [size_of_range']
  exact iter_one (k₁.trans kp) (fun Y => It.range hh) (range_first _ _ _)

/-- l[i] = .. : the list's object -/
theorem setItem_plain {l : Addr} {items : Array Value} {k : Int} {t : Tok} {v : Value} {Q : Unit → Shared → Prop} {E : Value → Shared → Prop} (hl : s.heap.PlainList l items) (h0 : 0 ≤ k) (hfit : k < 2 ^ 63) (hn : k < items.size)
    (hQ : ∀ h', h'.PlainList l (items.setIfInBounds k.toNat v) → Heap.SameBut l s.heap h' → Q () { s with heap := h' }) : wpAny (model pw w) A (setItem (.ref l) (.int k t) v) Q E s := by
  obtain ⟨n, ho⟩ := hl
  have hT : s.TypeIs (.ref l) "list" := ⟨_, ho, rfl⟩
  unfold setItem
  try with_reducible refine wpAny_holding ?_
  first | refine wpAny_bind (wpAny_pure ?_) | skip
  refine wpAny_bind (wpAny_sequenceKey hT (by decide) ?_)
  refine wpAny_bind (wpAny_callSpecial?_slot (name := Str.ofString "__setitem__") hT slot_list_setitem (wpAny_call_entry slot_list_setitem hT entry_list_setitem ?_ (args_list_setitem _ _ _)))
  show wpAny _ _ (Builtin.List.listSubscript? (.int k t) >>= _) _ _ s
  refine wpAny_bind (wpAny_listSubscript_int (fitsIndex_of h0 hfit) ?_)
  clear hfit
  obtain ⟨k, rfl⟩ := Int.eq_ofNat_of_zero_le h0
  have hk : k < items.size := by omega
  have hx' : items[k]? = some items[k] := Array.getElem?_eq_getElem hk
  show wpAny _ _ ((seqItemAt l k >>= fun r => pure (r.map (k, ·))) >>= _) _ _ s
  refine wpAny_bind (wpAny_bind (wpAny_seqItemAt ho rfl (wpAny_pure ?_)))
  rw [hx']
  show wpAny _ _ (setSeqItemAt l k v >>= _) _ _ s
  have e1 : Obj.mapSeq (·.setIfInBounds k v) { cls := .type "list", data := .seq items n } = { cls := .type "list", data := .seq (items.setIfInBounds k v) n } := by
    simp [Obj.mapSeq]
  have hfin : (s.heap.update l (Obj.mapSeq (·.setIfInBounds k v))).PlainList l (items.setIfInBounds k v) :=
    ⟨n, by rw [Heap.get?_update_self _ ho (by rw [e1]; rfl), e1]⟩
  refine wpAny_bind (wpAny_setSeqItemAt ho rfl ?_)
  first
    | exact wpAny_bind (wpAny_pure (wpAny_pure ⟨.none, rfl, wpAny_pure (hQ _ hfin (Heap.SameBut.update ..))⟩))
    | exact wpAny_pure ⟨.none, rfl, wpAny_pure (hQ _ hfin (Heap.SameBut.update ..))⟩
end
end Mine

namespace Mine
open PySem PySem.W PyProof.Rows PySem.SeqAt

section
variable {w : World} {A : Around} {s₀ : Shared} {Mu : List Addr} {en : List (Str × NameKind)} {e : Env} {X : List Addr} {Ow : Owns} {Γ : List (Str × Dt)} {s : Shared}

/-- two tellings joined, the frame's own lists may be others -/
theorem Fn.up' {X' X₁ : List Addr} {Ow' : Owns} {Γ' Γ₁ : List (Str × Dt)} {s' : Shared} (F : Fn w s₀ Mu e X₁ Ow Γ₁ s) (G : Fn w s (ownOf e Ow) e X' Ow' Γ' s') : Fn w s₀ Mu e X' Ow' Γ' s' := by
  obtain ⟨h, t, e0⟩ := F.same
  obtain ⟨h2, t2, e2⟩ := G.same
  refine ⟨G.toFs, Nat.le_trans F.tk0 G.tk0, ⟨h2, t2, by rw [e2, e0]⟩, fun b o hb eb => G.keep0 b o (fun q => ?_) (F.keep0 b o hb eb), F.lm, fun p hp => ?_⟩
  · rcases mem_ownOf.mp q with rfl | ⟨p, hp, rfl⟩ | ⟨p, hp, rfl⟩
    · exact hb F.lm.1
    · exact hb (F.lm.2 p hp)
    · rcases F.oo p hp with q | q
      · exact hb q
      · rw [q] at eb; cases eb
  · rcases G.oo p hp with q | q
    · rcases mem_ownOf.mp q with q | ⟨p', hp', q⟩ | ⟨p', hp', q⟩
      · exact .inl (q ▸ F.lm.1)
      · exact .inl (q ▸ F.lm.2 p' hp')
      · rw [q]; exact F.oo p' hp'
    · by_cases hm : p.1 ∈ Mu
      · exact .inl hm
      · refine .inr ?_
        cases q' : s₀.heap.get? p.1 with
        | none => rfl
        | some o => have := F.keep0 _ o hm q'; rw [q] at this; cases this
theorem Fn.lessX {X' : List Addr} (F : Fn w s₀ Mu e X Ow Γ s) (h : ∀ a ∈ X', a ∈ X) (hl : e.locals ∈ X') (hc : ∀ p ∈ e.cells, p.2 ∈ X') (ho : ∀ p ∈ Ow, p.1 ∈ X') : Fn w s₀ Mu e X' Ow Γ s :=
  ⟨F.toFs.lessX h hl hc ho, F.tk0, F.same, F.keep0, F.lm, F.oo⟩
theorem Fn.kw (F : Fn w s₀ Mu e X Ow Γ s) : Kw Mu s₀ s := ⟨F.tk0, F.same, F.keep0⟩
/-- a new object that nothing else speaks of -/
theorem Fn.addX {a : Addr} {s' : Shared} (F : Fn w s₀ Mu e X Ow Γ s) (k : Kp s s') (hn : s.heap.get? a = Option.none) (hl : ∃ o, s'.heap.get? a = some o) : Fn w s₀ Mu e (a :: X) Ow Γ s' := by
  have G := F.kp k
  have out : ∀ b o, b ∉ X → s.heap.get? b = some o → s'.heap.get? b = some o ∧ b ∉ a :: X := fun b o hb ho => ⟨k.ext b o ho, fun hm => by
    rcases List.mem_cons.mp hm with rfl | hm
    · rw [hn] at ho; cases ho
    · exact hb hm⟩
  refine { wd := G.wd, xin := fun b hb => ?_, ow := fun p hp => ?_, vars := fun p hp => ?_, cl := G.cl, cx := fun p hp => List.mem_cons_of_mem _ (G.cx p hp), ap := G.ap, wc := G.wc, tk := G.tk, ns := G.ns, lx := List.mem_cons_of_mem _ G.lx, wl := G.wl, tk0 := G.tk0, same := G.same, keep0 := G.keep0, lm := G.lm, oo := G.oo }
  · rcases List.mem_cons.mp hb with rfl | hb
    · exact hl
    · exact G.xin b hb
  · obtain ⟨x, us, b, c⟩ := F.ow p hp
    exact ⟨List.mem_cons_of_mem _ x, us, b.at fun o h => k.ext _ o h, c.ext out⟩
  · obtain ⟨v, x, y⟩ := F.vars p hp
    exact ⟨v, x.keep k.ext, y.ext out⟩
theorem Fn.dropOwn {a : Addr} {ds : List Dt} (F : Fn w s₀ Mu e (a :: X) ((a, ds) :: Ow) Γ s) (hl : e.locals ∈ X) (hc : ∀ p ∈ e.cells, p.2 ∈ X) (ho : ∀ p ∈ Ow, p.1 ∈ X) : Fn w s₀ Mu e X Ow Γ s :=
    { wd := F.wd, xin := fun b hb => F.xin b (List.mem_cons_of_mem _ hb), ow := fun p hp => (let ⟨_, vs, b, c⟩ := F.ow p (List.mem_cons_of_mem _ hp); ⟨ho p hp, vs, b, c.less fun a ha => List.mem_cons_of_mem _ ha⟩),
      vars := fun p hp => (let ⟨v, a, b⟩ := F.vars p hp; ⟨v, a, b.less fun a ha => List.mem_cons_of_mem _ ha⟩), cl := F.cl, cx := hc, ap := F.ap, wc := F.wc, tk := F.tk, ns := F.ns, lx := hl, wl := F.wl, tk0 := F.tk0, same := F.same, keep0 := F.keep0, lm := F.lm,
      oo := fun p hp => F.oo p (List.mem_cons_of_mem _ hp) }
/-- an own list that is changed no more is a list as any other -/
theorem Fn.disown {a : Addr} {ds : List Dt} {x : Str} (F : Fn w s₀ Mu e (a :: X) ((a, ds) :: Ow) Γ s) (ha : a ∉ X) (hx : (x, .own a) ∈ Γ) (hl : e.locals ∈ X) (hc : ∀ p ∈ e.cells, p.2 ∈ X) (ho : ∀ p ∈ Ow, p.1 ∈ X) : Fn w s₀ Mu e X Ow ((x, .lst ds) :: Γ) s := by
  have G := F.dropOwn hl hc ho
  refine { G with vars := fun p hp => ?_ }
  rcases List.mem_cons.mp hp with rfl | hp
  · obtain ⟨v, x', y⟩ := F.vars _ hx
    refine ⟨v, x', ?_⟩
    simp only [Is] at y ⊢
    obtain ⟨_, vs, hl, hi⟩ := F.ow (a, ds) List.mem_cons_self
    exact ⟨a, vs, y, ha, hl, hi.less fun a ha => List.mem_cons_of_mem _ ha⟩
  · exact G.vars p hp
/-- l[i] = ex, of a list of the frame's own -/
theorem Fn.setItem {o ix ex : Expr} {sp pos : Pos} {a : Addr} {ds : List Dt} {i : Nat} {d : Dt} {Q : Flow → Shared → Prop} {E : Value → Shared → Prop} (F : Fn w s₀ Mu e X Ow Γ s) (hex : Ev w A e X Ow Γ ex d) (ho : Ev w A e X Ow Γ o (.own a)) (hix : Ev w A e X Ow Γ ix (.int i)) (ha : (a, ds) ∈ Ow) (hK : (KK w.params).lookup a = Option.none) (hi : i < ds.length) (hsz : ds.length ≤ sizeLine)
    (h : ∀ s', Fn w s₀ Mu e X (setOw Ow a (ds.set i d)) Γ s' → Q .next s')
    (hs : swapsWith ex (some (.Subscript o ix sp)) pos.line e = pure false := by rfl) : Wp w A (exec (.Assign [.Subscript o ix sp] ex pos) e) Q E s := .mk <| by
  refine wpAny_Assign_Subscript (hex.use F.toCx fun v s₁ k₁ c₁ i₁ => ho.use c₁ fun lv s₂ k₂ c₂ i₂ => hix.use c₂ fun iv s₃ k₃ c₃ i₃ => ?_) hs
  simp only [Is] at i₂ i₃
  subst i₂
  obtain ⟨t, rfl⟩ := i₃
  have F₃ := ((F.kp k₁).kp k₂).kp k₃
  have iv := (i₁.keep k₂.ext).keep k₃.ext
  obtain ⟨_, vs, hl, hvs⟩ := c₃.ow _ ha
  dsimp only at hl hvs
  have hlen := hvs.length
  obtain ⟨n, hl0⟩ := id hl
  have z : sizeLine = 16777216 := rfl
  refine setItem_plain hl (Int.natCast_nonneg _) (by omega) (by simp [hlen]; exact hi) fun h' hl' hs' => ?_
  refine h _ (F₃.changed ⟨ds, ha⟩ hs' (vs := vs.set i v) (by simpa using hl') ?_ hl0 hK)
  refine IsAll.of (by simp [hlen]) fun j d' v' hd hv => ?_
  by_cases q : i = j
  · subst q
    rw [List.getElem?_set_self (by omega)] at hd hv
    cases hd; cases hv; exact iv
  · rw [List.getElem?_set_ne q] at hd hv
    obtain ⟨v'', e1, e2⟩ := hvs.nth hd
    rw [hv] at e1; cases e1; exact e2
/-- x = l + .., l the frame's own: the new list takes its place -/
theorem Fn.rebindAdd {x : Str} {l r : Expr} {bp px pos : Pos} {a : Addr} {ds es : List Dt} {Q : Flow → Shared → Prop} {E : Value → Shared → Prop} (F : Fn w s₀ Mu e (a :: X) ((a, ds) :: Ow) Γ s) (haX : a ∉ X) (hk : e.scope.kind = .function) (hl : Ev w A e (a :: X) ((a, ds) :: Ow) Γ l (.own a)) (hr : Ev w A e (a :: X) ((a, ds) :: Ow) Γ r (.lst es)) (hsz : ds.length + es.length ≤ sizeLine)
    (hx : e.kindOf x = some .local ∨ (e.kindOf x = some .cell ∧ ∃ c, e.cells.lookup x = some c)) (hlX : e.locals ∈ X) (hcX : ∀ p ∈ e.cells, p.2 ∈ X) (hoX : ∀ p ∈ Ow, p.1 ∈ X)
    (h : ∀ a' s', a' ∉ X → s.heap.get? a' = Option.none → (KK w.params).lookup a' = Option.none → Fn w s₀ Mu e (a' :: X) ((a', ds ++ es) :: Ow) (upd Γ x (.own a')) s' → Q .next s')
    (hcd : (x == ("__classdict__" : Str)) = false := by rfl)
    (hsw : swapsWith (.BinOp l .Add r bp) (some (.Name x px)) pos.line e = pure false := by rfl) : Wp w A (exec (.Assign [.Name x px] (.BinOp l .Add r bp) pos) e) Q E s := .mk <| by
  refine wpAny_Assign_Name (wpAny_BinOp (hl.use F.toCx fun lv s₁ k₁ c₁ i₁ => hr.use c₁ fun rv s₂ k₂ c₂ i₂ => ?_)) hsw
  simp only [Is] at i₁ i₂
  subst i₁
  obtain ⟨rb, us, rfl, _, ⟨n', hl'⟩, hi'⟩ := i₂
  have F₂ := (F.kp k₁).kp k₂
  obtain ⟨_, vs, ⟨n, hl0⟩, hvs⟩ := F₂.ow (a, ds) List.mem_cons_self
  dsimp only at hl0 hvs
  refine P.add_list hl0 hl' ?_ (by simp [hvs.length, hi'.length]; exact hsz)
  rw [List.append_toArray]
  have hn := size_none s₂.heap
  have G := F₂.dropOwn hlX hcX hoX
  have hnX : s₂.heap.objs.size ∉ X := Xin.new G.xin
  have hall : IsAll s₂.heap X (ds ++ es) (vs ++ us) := (hvs.append hi').less fun b hb => List.mem_cons_of_mem _ hb
  have H := G.adopt (a := s₂.heap.objs.size) (vs := vs ++ us) (ds := ds ++ es) (Kp.push s₂ { cls := .type "list", data := .seq (vs ++ us).toArray }) hn ⟨_, get_push _ _⟩
    (hall.ext fun b o hb ho => ⟨Heap.get?_push_of_some _ ho, fun hm => by
      rcases List.mem_cons.mp hm with rfl | hm
      · rw [hn] at ho; cases ho
      · exact hb hm⟩)
  refine H.store hk (d := .own s₂.heap.objs.size) (by simp only [Is]) hx hcd fun s' H => h _ s' hnX (none_back (k₁.trans k₂) hn) ?_ H
  cases q : (KK w.params).lookup s₂.heap.objs.size with
  | none => rfl
  | some o => have := F₂.wd _ o q; rw [hn] at this; cases this
/-- x = y = z = .. -/
theorem Fn.assign3 {x y z : Str} {px py pz pos : Pos} {ex : Expr} {d : Dt} {Q : Flow → Shared → Prop} {E : Value → Shared → Prop} (F : Fn w s₀ Mu e X Ow Γ s) (he : Ev w A e X Ow Γ ex d) (hk : e.scope.kind = .function) (hx : Stores e x) (hy : Stores e y) (hz : Stores e z)
    (h : ∀ s', Fn w s₀ Mu e X Ow (upd (upd (upd Γ x d) y d) z d) s' → Q .next s') : Wp w A (exec (.Assign [.Name x px, .Name y py, .Name z pz] ex pos) e) Q E s := .mk <|
  wpAny_Assign_three (he.use F.toCx fun v s₁ k₁ c₁ i₁ => wpAny_assign_Name ((F.kp k₁).toFs.store hk i₁ hx.1 hx.2 fun s₂ G₂ kb₂ => wpAny_assign_Name (G₂.store hk (kb₂.is (F.kp k₁).toFs i₁) hy.1 hy.2 fun s₃ G₃ kb₃ =>
    wpAny_assign_Name (G₃.store hk (kb₃.is G₂ (kb₂.is (F.kp k₁).toFs i₁)) hz.1 hz.2 fun s₄ G₄ kb₄ => h s₄ ((F.kp k₁).ofKb G₄ ((kb₂.trans kb₃).trans kb₄))))))
theorem Wp.brk {pos : Pos} {Q : Flow → Shared → Prop} {E : Value → Shared → Prop} (h : Q .brk s) : Wp w A (exec (.Break pos) e) Q E s := .mk (wpAny_Break h)

theorem Fn.besideDrop {dx : Addr} {h' : Heap} {t : Tok} (F : Fn w s₀ Mu e (dx :: X) Ow Γ s) (hdX : dx ∉ X) (hMu : dx ∈ Mu ∨ s₀.heap.get? dx = Option.none) (hK : (KK w.params).lookup dx = Option.none) (hlX : e.locals ∈ X) (hcX : ∀ p ∈ e.cells, p.2 ∈ X) (hoX : ∀ p ∈ Ow, p.1 ∈ X)
    (hs : ∀ b o, b ≠ dx → s.heap.get? b = some o → h'.get? b = some o) (ht : s.toks ≤ t) : Fn w s₀ Mu e X Ow Γ { s with heap := h', toks := t } := by
  have ne : ∀ {b : Addr}, b ∈ X → b ≠ dx := fun h q => hdX (q ▸ h)
  have out : ∀ b o, b ∉ dx :: X → s.heap.get? b = some o → h'.get? b = some o ∧ b ∉ X := fun b o hb h => ⟨hs b o (fun q => hb (q ▸ List.mem_cons_self)) h, fun q => hb (List.mem_cons_of_mem _ q)⟩
  refine { tk := Nat.lt_of_lt_of_le F.tk ht, tk0 := Nat.le_trans F.tk0 ht, wd := fun b o h => hs b o (fun q => by rw [q, hK] at h; cases h) (F.wd b o h), xin := fun b hb => ?_, ow := fun p hp => ?_, vars := fun p hp => ?_, cl := fun p hp => ?_, cx := hcX, ap := F.ap, wc := F.wc, ns := ?_, lx := hlX, wl := F.wl, same := ?_, keep0 := fun b o hb hbo => ?_, lm := F.lm, oo := F.oo }
  · obtain ⟨o, h⟩ := F.xin b (List.mem_cons_of_mem _ hb); exact ⟨o, hs b o (ne hb) h⟩
  · obtain ⟨x, us, b, c⟩ := F.ow p hp
    exact ⟨hoX p hp, us, b.at fun o h => hs _ o (ne (hoX p hp)) h, c.ext out⟩
  · obtain ⟨v, x, y⟩ := F.vars p hp
    refine ⟨v, ?_, y.ext out⟩
    rcases x with ⟨x, m, ⟨o, es, ep, h, r⟩, c⟩ | ⟨x, b, c, d, o, h, hd⟩
    · exact .inl ⟨x, m, ⟨o, es, ep, hs _ o (ne hlX) h, r⟩, c⟩
    · exact .inr ⟨x, b, c, d, o, hs _ o (ne (hcX _ (mem_of_lookup d))) h, hd⟩
  · obtain ⟨v, o, h, hd⟩ := F.cl p hp
    exact ⟨v, o, hs _ o (ne (hcX p hp)) h, hd⟩
  · obtain ⟨m, o, es, ep, h, r⟩ := F.ns
    exact ⟨m, o, es, ep, hs _ o (ne hlX) h, r⟩
  · obtain ⟨h, t, e0⟩ := F.same
    exact ⟨h', _, by rw [e0]⟩
  · refine hs b o (fun q => ?_) (F.keep0 b o hb hbo)
    rcases hMu with x | x
    · exact hb (q ▸ x)
    · rw [q] at hbo; rw [x] at hbo; cases hbo

/-! ## for x in a str: the frame's own lists may become others -/
noncomputable def TurnS (w : World) (s₀ : Shared) (Mu : List Addr) (e : Env) (s : Shared) (Ow₀ : Owns) (Inv : Nat → List Addr → Owns → List (Str × Dt) → Prop) (Q : Flow → Shared → Prop) (i : Nat) (I : Addr) (Ow' : Owns) (s' : Shared) (f : Flow) (s₃ : Shared) : Prop :=
  match f with
  | .next | .cont => ∃ X'' Ow'' Γ'', Inv (i + 1) X'' Ow'' Γ'' ∧ I ∉ X'' ∧ Fn w s' (ownOf e Ow') e (I :: X'') Ow'' Γ'' s₃
  | .brk => ∃ X'' Ow'' Γ'', e.locals ∈ X'' ∧ (∀ p ∈ e.cells, p.2 ∈ X'') ∧ (∀ p ∈ Ow'', p.1 ∈ X'') ∧ Fn w s' (ownOf e Ow') e (I :: X'') Ow'' Γ'' s₃ ∧ ∀ s₄, Fn w s₀ Mu e X'' Ow'' Γ'' s₄ → Kw (ownOf e Ow₀) s s₄ → Q .next s₄
  | .ret _ => False
theorem Fn.forStr {target iter : Expr} {body : List Stmt} {pos : Pos} {x : Str} {Q : Flow → Shared → Prop} {E : Value → Shared → Prop} (F : Fn w s₀ Mu e X Ow Γ s) (hh : A.handled = none)
    (hit : wpAny (model pw w) A (eval iter e) (fun v s' => Kp s s' ∧ ∃ t, v = .str x t) Bot s)
    (Inv : Nat → List Addr → Owns → List (Str × Dt) → Prop) (h0 : Inv 0 X Ow Γ)
    (hX : ∀ i X' Ow' Γ', Inv i X' Ow' Γ' → e.locals ∈ X' ∧ (∀ p ∈ e.cells, p.2 ∈ X') ∧ ∀ p ∈ Ow', p.1 ∈ X')
    (turn : ∀ i c X' Ow' Γ' I s' v, x.cps[i]? = some c → Inv i X' Ow' Γ' → I ∉ X' → Fn w s' (ownOf e Ow') e (I :: X') Ow' Γ' s' → Is s'.heap (I :: X') (.str ⟨#[c]⟩) v →
      wpAny (model pw w) A (PySem.assign target e v) (fun _ s₂ => Wp w A (execs body e) (TurnS w s₀ Mu e s Ow Inv Q i I Ow' s') Bot s₂) Bot s')
    (done : ∀ X' Ow' Γ' s', Inv x.cps.size X' Ow' Γ' → Fn w s₀ Mu e X' Ow' Γ' s' → Kw (ownOf e Ow) s s' → Q .next s')
    (hs : ∀ x, foldedSetIterable iter e x = pure x := by intro _; rfl) :
    Wp w A (exec (.For target iter body [] pos) e) Q E s := by
  refine .mk (wpAny_For (wpb hit fun v s₁ ⟨k₁, t, hv⟩ => ?_) hs)
  subst hv
  have hT : strIterType x = "str_ascii_iterator" ∨ strIterType x = "str_iterator" := by
    unfold strIterType; split
    · exact .inl rfl
    · exact .inr rfl
  refine wpAny_pyIter_strU ?_
  have hn₁ := size_none s₁.heap
  have hn := none_back k₁ hn₁
  generalize hI : s₁.heap.objs.size = I at *
  have st0 : (s₁.heap.push { cls := .type (strIterType x), data := .fields #[.str x t, .int 0 0] }).IsStrIter I (strIterType x) x t 0 := by
    rw [← hI]; exact ⟨_, get_push _ _, rfl, rfl⟩
  have base : Fn w s (ownOf e Ow) e (I :: X) Ow Γ { s₁ with heap := s₁.heap.push { cls := .type (strIterType x), data := .fields #[.str x t, .int 0 0] } } :=
    F.toFs.base.addX (k₁.trans (Kp.push _ _)) hn (by obtain ⟨o, ho, _⟩ := st0; exact ⟨o, ho⟩)
  have hIX : I ∉ X := fun h => by obtain ⟨o, ho⟩ := F.xin I h; rw [hn] at ho; cases ho
  have hKI : (KK w.params).lookup I = Option.none := by
    cases q : (KK w.params).lookup I with
    | none => rfl
    | some o => have := F.wd I o q; rw [hn] at this; cases this
  have hIl : I ≠ e.locals := fun q => hIX (q ▸ F.lx)
  have hIc : ∀ p ∈ e.cells, I ≠ p.2 := fun p hp q => hIX (q ▸ F.cx p hp)
  -- the frame when the iterator moves
  have moves : ∀ {X' Ow' Γ' s' s''} , Fn w s (ownOf e Ow) e (I :: X') Ow' Γ' s' → (∃ o, s'.heap.get? I = some o ∧ o.cls = .type (strIterType x)) → Kw [I] s' s'' → (∃ o, s''.heap.get? I = some o) → Fn w s (ownOf e Ow) e (I :: X') Ow' Γ' s'' := fun {X' Ow' Γ' s' s''} G hc kw hl => by
    obtain ⟨tk, ⟨h', t', rfl⟩, kk⟩ := kw
    refine G.beside List.mem_cons_self (.inr hn) hKI hIl hIc (fun p hp q => ?_) (fun b o hb ho => kk b o (by simpa using hb) ho) hl tk
    obtain ⟨_, vs, ⟨n, hl⟩, _⟩ := G.ow p hp
    obtain ⟨o, ho, hc⟩ := hc
    rw [← q, ho] at hl
    cases hl
    rcases hT with e1 | e1 <;> rw [e1] at hc <;> exact absurd (Value.type.inj hc) (by decide)
  have liveI : ∀ {i : Nat} {h : Heap}, h.IsStrIter I (strIterType x) x t i → ∃ o, h.get? I = some o ∧ o.cls = .type (strIterType x) := fun st => by
    obtain ⟨o, ho, hc, _⟩ := st; exact ⟨o, ho, hc⟩
  refine codeAny_forLoop' (fun n s' => ∃ i X' Ow' Γ', n = x.cps.size - i ∧ i ≤ x.cps.size ∧ Inv i X' Ow' Γ' ∧ I ∉ X' ∧ Fn w s (ownOf e Ow) e (I :: X') Ow' Γ' s' ∧ s'.heap.IsStrIter I (strIterType x) x t i)
    (fun n s' hJ => ?_) x.cps.size ⟨0, X, Ow, Γ, by simp, Nat.zero_le _, h0, hIX, base, st0⟩
  obtain ⟨i, X', Ow', Γ', rfl, hi, hInv, hIX', G, st⟩ := hJ
  obtain ⟨hlX, hcX, hoX⟩ := hX _ _ _ _ hInv
  have hsl : (signsDt x).length = x.cps.size := by simp [signsDt]
  have itx := It.str (w := w) (A := A) (X := X') (tg := target) (I := I) (x := x) (t := t) hh hT
  by_cases hlt : i < x.cps.size
  · have hc : x.cps[i]? = some x.cps[i] := Array.getElem?_eq_getElem hlt
    have hd : (signsDt x)[i]? = some (.str ⟨#[x.cps[i]]⟩) := by
      unfold signsDt
      rw [List.getElem?_map, Array.getElem?_toList, hc]; rfl
    refine wpb (itx.item i _ s' hd st fun a ha => G.xin a (by simpa using ha)) fun r s₁' h => ?_
    obtain ⟨v, rfl, hv, st₁, kw₁⟩ := h
    refine wpb (itx.go i s₁' v st₁) fun _ s₂' h => ?_
    obtain ⟨kw₂, st₂⟩ := h
    have G₂ := moves G (liveI st) (kw₁.trans kw₂) (let ⟨o, ho, _⟩ := liveI st₂; ⟨o, ho⟩)
    have hv₂ : Is s₂'.heap (I :: X') (.str ⟨#[x.cps[i]]⟩) v := by simp only [Is] at hv ⊢; exact hv
    refine wpb (turn i _ X' Ow' Γ' I s₂' v hc hInv hIX' G₂.toFs.base hv₂) fun _ s₃ h => wpb h.p fun f s₄ h => ?_
    have keepI : ∀ {X'' Ow'' Γ'' s₄}, Fn w s₂' (ownOf e Ow') e (I :: X'') Ow'' Γ'' s₄ → s₄.heap.IsStrIter I (strIterType x) x t (i + 1) := fun {X'' Ow'' Γ'' s₄} H => by
      obtain ⟨o, ho, r⟩ := st₂
      refine ⟨o, H.keep0 I o (fun hm => ?_) ho, r⟩
      rcases mem_ownOf.mp hm with q | ⟨p, hp, q⟩ | ⟨p, hp, q⟩
      · exact hIl q
      · exact hIc p hp q
      · exact hIX' (q ▸ hoX p hp)
    cases f with
    | next =>
      obtain ⟨X'', Ow'', Γ'', h1, hI2, h2⟩ := h
      exact ⟨x.cps.size - (i + 1), by omega, i + 1, X'', Ow'', Γ'', rfl, hlt, h1, hI2, G₂.up' h2, keepI h2⟩
    | cont =>
      obtain ⟨X'', Ow'', Γ'', h1, hI2, h2⟩ := h
      exact ⟨x.cps.size - (i + 1), by omega, i + 1, X'', Ow'', Γ'', rfl, hlt, h1, hI2, G₂.up' h2, keepI h2⟩
    | brk =>
      obtain ⟨X'', Ow'', Γ'', h1, h2, h3, h4, h5⟩ := h
      have H := G₂.up' h4
      refine h5 s₄ ((F.up' (Ow := Ow) H).lessX (fun a ha => List.mem_cons_of_mem _ ha) h1 h2 h3) H.kw
    | ret v => exact h.elim
  · have hin : i = x.cps.size := by omega
    subst hin
    refine wpb (itx.done s' (by rw [hsl]; exact st)) fun r s₁' h => ?_
    obtain ⟨rfl, kw₁⟩ := h
    obtain ⟨tk, ⟨h', t', rfl⟩, kk⟩ := kw₁
    have H := G.besideDrop hIX' (.inr hn) hKI hlX hcX hoX (fun b o hb ho => kk b o (by simpa using hb) ho) tk
    exact done X' Ow' Γ' _ hInv (F.up' (Ow := Ow) H) H.kw
end
end Mine

namespace Mine
open PySem PySem.W

/-! ## the spaces of a line -/
structure Ws where
  n : Nat
  nt : Nat
  count : List Nat
  b : Nat
  deriving DecidableEq
noncomputable def Ws.sp (s : Ws) : Ws := ⟨s.n + 1, s.nt, s.count, s.b + 1⟩
noncomputable def Ws.wide (s : Ws) : List Nat := if s.b ≥ s.count.length then s.count ++ List.replicate (s.b - s.count.length + 1) 0 else s.count
noncomputable def Ws.tab (s : Ws) : Ws := ⟨s.n + 1, s.nt + 1, s.wide.set s.b (s.wide.getD s.b 0 + 1), 0⟩
noncomputable def wsGo : Ws → List Nat → Ws
  | s, [] => s
  | s, c :: r => if c = 32 then wsGo s.sp r else if c = 9 then wsGo s.tab r else s
noncomputable def ws0 : Ws := ⟨0, 0, [], 0⟩
noncomputable def wsOf (l : List Nat) : Ws := wsGo ws0 l
noncomputable def wsNorm (s : Ws) : Dt := .tup [.tup (natsDt s.count), .int (s.b : Nat)]
noncomputable def wsDt (raw : Str) (s : Ws) : List Dt := [.str raw, .int (s.n : Nat), .int (s.nt : Nat), wsNorm s, .bool (decide (s.count.length ≤ 1))]
/-- what bounds them -/
structure WsB (s : Ws) (k : Nat) : Prop where
  n : s.n ≤ k
  nt : s.nt ≤ k
  b : s.b ≤ k
  len : s.count.length ≤ k + 1
theorem Ws.wide_len (s : Ws) : s.b < s.wide.length := by
  unfold Ws.wide
  split
  · simp; omega
  · omega
theorem WsB.sp {s : Ws} {k : Nat} (h : WsB s k) : WsB s.sp (k + 1) := ⟨by have := h.n; simp [Ws.sp]; omega, by have := h.nt; simp [Ws.sp]; omega, by have := h.b; simp [Ws.sp]; omega, by have := h.len; simp [Ws.sp]; omega⟩
theorem WsB.wide {s : Ws} {k : Nat} (h : WsB s k) : s.wide.length ≤ k + 1 := by
  have := h.b; have := h.len
  unfold Ws.wide
  split
  · simp; omega
  · omega
theorem WsB.tab {s : Ws} {k : Nat} (h : WsB s k) : WsB s.tab (k + 1) := ⟨by have := h.n; simp [Ws.tab]; omega, by have := h.nt; simp [Ws.tab]; omega, by simp [Ws.tab], by have := h.wide; simp [Ws.tab]; omega⟩
theorem WsB.mono {s : Ws} {k k' : Nat} (h : WsB s k) (hk : k ≤ k') : WsB s k' := ⟨Nat.le_trans h.n hk, Nat.le_trans h.nt hk, Nat.le_trans h.b hk, by have := h.len; omega⟩
theorem wsGo_b' : ∀ (l : List Nat) {s : Ws} {k : Nat}, WsB s k → WsB (wsGo s l) (k + l.length)
  | [], s, k, h => h
  | c :: r, s, k, h => by
    simp only [wsGo, List.length_cons]
    rw [show k + (r.length + 1) = k + 1 + r.length by omega]
    split
    · exact wsGo_b' r h.sp
    · split
      · exact wsGo_b' r h.tab
      · exact h.mono (by omega)
theorem wsGo_b {s : Ws} {k : Nat} (h : WsB s k) (l : List Nat) : WsB (wsGo s l) (k + l.length) := wsGo_b' l h
end Mine

namespace Mine
open PySem PySem.W PyProof.Rows PySem.SeqAt

section
variable {w : World} {A : Around} {X : List Addr}

theorem Self.ext {h h' : Heap} {X X' : List Addr} {a dx : Addr} {L : List (Str × Dt)} (S : Self h X a dx L) (k : ∀ b o, (b ∉ X ∨ b = dx) → h.get? b = some o → h'.get? b = some o ∧ (b ∉ X → b ∉ X')) (ha : a ∉ X) : Self h' X' a dx L := by
  obtain ⟨m, ⟨⟨n, ho, hon⟩, hne, ⟨o2, es, ep, ho2, r⟩, h0⟩, hl⟩ := S.ii
  exact ⟨m, ⟨⟨n, (k a _ (.inl ha) ho).1, hon⟩, hne, ⟨o2, es, ep, (k dx _ (.inr rfl) ho2).1, r⟩, h0⟩, fun p hp => let ⟨v, x, y⟩ := hl p hp; ⟨v, x, y.ext fun b o hb hbo => ⟨(k b o (.inl hb) hbo).1, (k b o (.inl hb) hbo).2 hb⟩⟩⟩
theorem sgn32 (c : Nat) : ((⟨#[c]⟩ : Str) == (" " : Str)) = decide (c = 32) := by
  rw [show (" " : Str) = ⟨#[32]⟩ from rfl]
  rw [Bool.eq_iff_iff, beq_iff_eq, decide_eq_true_eq]
  constructor
  · intro h
    have := congrArg Str.cps h
    have := congrArg Array.toList this
    simpa using this
  · rintro rfl; rfl
theorem sgn9 (c : Nat) : ((⟨#[c]⟩ : Str) == ("\t" : Str)) = decide (c = 9) := by
  rw [show ("\t" : Str) = ⟨#[9]⟩ from rfl]
  rw [Bool.eq_iff_iff, beq_iff_eq, decide_eq_true_eq]
  constructor
  · intro h
    have := congrArg Str.cps h
    have := congrArg Array.toList this
    simpa using this
  · rintro rfl; rfl
theorem Fe.sto {en : List (Str × NameKind)} {e : Env} (f : Fe en e) {x : Str} (h : en.lookup x = some .local) (hcd : (x == ("__classdict__" : Str)) = false := by rfl) : Stores e x := ⟨.inl (f.kd _ _ h), hcd⟩
theorem natsDt_set (l : List Nat) (i k : Nat) : (natsDt l).set i (.int (k : Nat)) = natsDt (l.set i k) := by
  unfold natsDt; rw [List.map_set]
theorem natsDt_at {l : List Nat} {i : Nat} (h : i < l.length) : (natsDt l)[i]? = some (.int (l.getD i 0 : Nat)) := by
  unfold natsDt
  rw [List.getElem?_map, List.getElem?_eq_getElem h, List.getD_eq_getElem?_getD, List.getElem?_eq_getElem h]; rfl

/-- the attributes at the end -/
noncomputable def wsAttrs (raw : Str) (s : Ws) : List (Str × Dt) := [("is_simple", .bool (decide (s.count.length ≤ 1))), ("norm", wsNorm s), ("nt", .int (s.nt : Nat)), ("n", .int (s.n : Nat)), ("raw", .str raw)]
noncomputable abbrev inG (a a' : Addr) (s : Ws) : List (Str × Dt) := [("self", .own a), ("S", .str " "), ("T", .str "\t"), ("count", .own a'), ("b", .int (s.b : Nat)), ("n", .int (s.n : Nat)), ("nt", .int (s.nt : Nat))]
set_option maxHeartbeats 4000000 in
theorem call_init {l : List Nat} (hlen : l.length ≤ 100000) (r : Room 1 A) {s : Shared} {a dx : Addr} {v : Value} (tk : 0 < s.toks) (wd : Wd w s.heap) (xin : Xin X s) (hdX : dx ∈ X) (haX : a ∉ X) (ha83 : a ≠ 83) (S0 : Self s.heap X a dx []) (hKd : (KK w.params).lookup dx = none) (iv : Is s.heap X (.str (S l)) v) :
    wpAny (model pw w) A (call (.ref 38) [.ref a, v]) (fun r s' => r = .none ∧ Kw [dx] s s' ∧ Self s'.heap X a dx (wsAttrs (S l) (wsOf l))) Bot s := by
  refine call_fnG (X := X) (names := ["self", "ws"]) (ds := [.own a, .str (S l)]) (fn38 _) r tk wd xin (by simp only [IsAll]; exact ⟨_, _, rfl, by simp only [Is], _, _, rfl, iv, rfl⟩) rfl rfl (by rfl) (by decide) fun e s₁ he r' hown F => ?_
  have fe : Fe (fScope (inCls 2 1)).names e := by subst he; exact Fe.of (fn38 _)
  clear he
  have hk := fe.hk
  have z : sizeLine = 16777216 := rfl
  obtain ⟨m0, ⟨⟨nn, hao, _⟩, hne, ⟨o2, es2, ep2, hdo, _⟩, _⟩, _⟩ := id S0.ii
  have hdl : dx ≠ e.locals := fun q => by
    have := hown e.locals (mem_ownOf.mpr (.inl rfl))
    rw [← q, hdo] at this; cases this
  have hdc : ∀ p ∈ e.cells, dx ≠ p.2 := fun p hp q => by
    have := hown p.2 (mem_ownOf.mpr (.inr (.inl ⟨p, hp, rfl⟩)))
    rw [← q, hdo] at this; cases this
  have hdo' : dx ∉ ownOf e [] := fun h => by
    rcases mem_ownOf.mp h with q | ⟨p, hp, q⟩ | ⟨p, hp, q⟩
    · exact hdl q
    · exact hdc p hp q
    · cases hp
  have hdX' : dx ∈ outOf e X := List.mem_cons_of_mem _ (List.mem_append_right _ hdX)
  have haX' : a ∉ outOf e X := fun h => by
    rcases List.mem_cons.mp h with q | h
    · have := hown e.locals (mem_ownOf.mpr (.inl rfl))
      rw [← q, hao] at this; cases this
    · rcases List.mem_append.mp h with h | h
      · obtain ⟨p, hp, q⟩ := List.mem_map.mp h
        have := hown p.2 (mem_ownOf.mpr (.inr (.inl ⟨p, hp, rfl⟩)))
        rw [q, hao] at this; cases this
      · exact haX h
  have inOut : ∀ b o, s.heap.get? b = some o → b ∉ ownOf e [] := fun b o hb h => by rw [hown b h] at hb; cases hb
  have S1 : Self s₁.heap (outOf e X) a dx [] := S0.ext (fun b o hb ho => ⟨F.keep0 b o (inOut b o ho) ho, fun hbX h => by
    rcases List.mem_cons.mp h with q | h
    · exact inOut b o ho (mem_ownOf.mpr (.inl q))
    · rcases List.mem_append.mp h with h | h
      · obtain ⟨p, hp, q⟩ := List.mem_map.mp h
        exact inOut b o ho (mem_ownOf.mpr (.inr (.inl ⟨p, hp, q.symm⟩)))
      · exact hbX h⟩) haX
  have F := F.moreMu (Mu' := dx :: ownOf e []) fun b hb => List.mem_cons_of_mem _ hb
  refine execs_cons' (F.setAttr (L := []) (Ev.var hk) (Ev.var hk) S1 haX' hdX' (.inl List.mem_cons_self) hKd hdl ha83 fun s₂ F S2 => ?_)
  generalize hX₀ : outOf e X = X₀ at *
  have hlX : e.locals ∈ X₀ := F.lx
  have hcX : ∀ p ∈ e.cells, p.2 ∈ X₀ := F.cx
  -- from here the frame alone
  have G : Fn w s₂ (ownOf e []) e X₀ [] [("self", .own a), ("ws", .str (S l))] s₂ := F.toFs.base
  refine execs_cons' (G.assignSwap fe (Ev.tup (EvAll.cons (Ev.clsAttr fe.g (fe.kd _ _ rfl) (gl_Whitespace _) (ws_S _)) (EvAll.cons (Ev.clsAttr fe.g (fe.kd _ _ rfl) (gl_Whitespace _) (ws_T _)) EvAll.nil)) (by simp; decide)) r'.hd rfl rfl fun s₃ G => ?_)
  refine execs_cons' (G.newOwn hk (fe.loc (.inl rfl)) fun c₀ s₄ hc₀ hKc G => ?_)
  refine execs_cons' (G.assign3 Ev.int hk (fe.sto rfl) (fe.sto rfl) (fe.sto rfl) fun s₅ G => ?_)
  have G := G.norm (inG a c₀ ws0) ⟨rfl, rfl, rfl, rfl, rfl, rfl, rfl, trivial⟩
  -- the object stands as long as the frame alone moves
  have later : ∀ {Y : List Addr} {Ow : Owns} {Γ : List (Str × Dt)} {s' : Shared}, Fn w s₂ (ownOf e []) e Y Ow Γ s' → ∀ Z, Self s'.heap Z a dx [("raw", .str (S l))] := fun H Z => by
    obtain ⟨m, hi, hl⟩ := (S2.keepBut (h' := _) (fun b o hb ho => H.keep0 b o (fun hm => by
      rcases hb with hb | hb
      · rcases mem_ownOf.mp hm with q | ⟨p, hp, q⟩ | ⟨p, hp, q⟩
        · exact hb (q ▸ hlX)
        · exact hb (q ▸ hcX p hp)
        · cases hp
      · exact hdo' (hb ▸ hm)) ho) haX').ii
    refine ⟨m, hi, fun p hp => ?_⟩
    obtain ⟨v, h1, h2⟩ := hl p (by simpa using hp)
    simp only [List.mem_singleton] at hp
    subst hp
    exact ⟨v, h1, by simp only [Is] at h2 ⊢; exact h2⟩
  have apartA : ∀ {Y : List Addr} {a' : Addr} {ds : List Dt} {Γ : List (Str × Dt)} {s' : Shared}, Fn w s₂ (ownOf e []) e Y [(a', ds)] Γ s' → a ≠ a' := fun H q => by
    obtain ⟨_, ⟨⟨n, h1, h1c, _⟩, _⟩, _⟩ := (later H X₀).ii
    obtain ⟨_, vs, ⟨n', h2⟩, _⟩ := H.ow _ List.mem_cons_self
    dsimp only at h2
    rw [← q, h1] at h2; cases h2; cases h1c
  refine execs_join (P := fun s' => ∃ a', a' ∉ X₀ ∧ Fn w s₂ (ownOf e []) e (a' :: X₀) [(a', natsDt (wsOf l).count)] (inG a a' (wsOf l)) s') ?_ fun s₆ ⟨a', ha', G⟩ => ?_
  · refine G.forStr (x := S l) r'.hd (Ev.selfAttr (a := a) (dx := dx) (L := [("raw", .str (S l))]) (d := .str (S l)) (Ev.var hk) G.toCx (later G _) (fun h => by rcases List.mem_cons.mp h with q | h; exact apartA G q; exact haX' h) (by simp) (by decide) fun v s' k c i => ⟨k, by simpa only [Is] using i⟩)
      (fun i X' Ow' Γ' => ∃ a' ws, X' = a' :: X₀ ∧ a' ∉ X₀ ∧ (KK w.params).lookup a' = none ∧ Ow' = [(a', natsDt ws.count)] ∧ AllHas (inG a a' ws) Γ' ∧ WsB ws i ∧ wsGo ws (l.drop i) = wsOf l)
      ⟨c₀, ws0, rfl, hc₀, hKc, rfl, ⟨rfl, rfl, rfl, rfl, rfl, rfl, rfl, trivial⟩, ⟨by decide, by decide, by decide, by decide⟩, rfl⟩
      (fun i X' Ow' Γ' hI => ?_) (fun i c X' Ow' Γ' I s' v hc hI hIX G hv => ?_) (fun X' Ow' Γ' s' hI G kw => ?_)
    · obtain ⟨a', ws, rfl, ha', _, rfl, _⟩ := hI
      exact ⟨List.mem_cons_of_mem _ hlX, fun p hp => List.mem_cons_of_mem _ (hcX p hp), by simp⟩
    · obtain ⟨a', ws, rfl, ha', hKa, rfl, hΓ, hb, hgo⟩ := hI
      have G := G.norm _ hΓ
      have hc : l[i]? = some c := by simpa using hc
      have hil : i < l.length := (List.getElem?_eq_some_iff.mp hc).1
      have hdrop : l.drop i = c :: l.drop (i + 1) := by
        obtain ⟨hi, e⟩ := List.getElem?_eq_some_iff.mp hc
        rw [List.drop_eq_getElem_cons hi, e]
      rw [hdrop] at hgo
      simp only [wsGo] at hgo
      have hIX₀ : I ∉ X₀ := fun h => hIX (List.mem_cons_of_mem _ h)
      have hIa : I ≠ a' := fun h => hIX (h ▸ List.mem_cons_self)
      refine wpAny_assign_Name (G.store (x := "ch") hk hv (fe.loc (.inl rfl)) rfl fun t₁ G => ?_)
      have G := G.norm (("ch", .str ⟨#[c]⟩) :: inG a a' ws) ⟨rfl, rfl, rfl, rfl, rfl, rfl, rfl, rfl, trivial⟩
      have hnb := hb.n
      have hntb := hb.nt
      have hbb := hb.b
      have hlb := hb.len
      have hcl := natsDt_len ws.count
      refine execs_cons' (G.if_ (EvT.eq (EvT.cmp (Op2.eqs (x := ⟨#[c]⟩) (y := " ")) (Ev.var hk) (Ev.var hk)) (sgn32 c)) (fun h32 t₂ G => ?_) fun h32 t₂ G => ?_)
      · have h32 : c = 32 := by simpa using h32
        rw [if_pos h32] at hgo
        refine execs_cons' (G.assign (Ev.bin Op2.add (Ev.var hk) Ev.int) hk (fe.loc (.inl rfl)) fun t₃ G => ?_)
        refine execs_cons' (G.assign (Ev.bin Op2.add (Ev.var hk) Ev.int) hk (fe.loc (.inl rfl)) fun t₄ G => ?_)
        refine execs_nil' (execs_nil' ⟨a' :: X₀, [(a', natsDt ws.count)], _, ⟨a', ws.sp, rfl, ha', hKa, rfl, ⟨rfl, rfl, rfl, rfl, rfl, rfl, rfl, trivial⟩, hb.sp, hgo⟩, hIX, G⟩)
      · have h32 : ¬ c = 32 := by simpa using h32
        rw [if_neg h32] at hgo
        refine execs_cons' (G.if_ (EvT.eq (EvT.cmp (Op2.eqs (x := ⟨#[c]⟩) (y := "\t")) (Ev.var hk) (Ev.var hk)) (sgn9 c)) (fun h9 t₃ G => ?_) fun h9 t₃ G => ?_)
        · have h9 : c = 9 := by simpa using h9
          rw [if_pos h9] at hgo
          refine execs_cons' (G.assign (Ev.bin Op2.add (Ev.var hk) Ev.int) hk (fe.loc (.inl rfl)) fun t₄ G => ?_)
          refine execs_cons' (G.assign (Ev.bin Op2.add (Ev.var hk) Ev.int) hk (fe.loc (.inl rfl)) fun t₅ G => ?_)
          have G := G.norm [("self", .own a), ("S", .str " "), ("T", .str "\t"), ("count", .own a'), ("b", .int (ws.b : Nat)), ("n", .int (ws.n + 1 : Nat)), ("nt", .int (ws.nt + 1 : Nat))] ⟨rfl, rfl, rfl, rfl, rfl, rfl, rfl, trivial⟩
          have hlenE : ∀ {pp p₂ q : Pos}, Ev w (A.deeper e) e (I :: a' :: X₀) [(a', natsDt ws.count)] [("self", .own a), ("S", .str " "), ("T", .str "\t"), ("count", .own a'), ("b", .int (ws.b : Nat)), ("n", .int (ws.n + 1 : Nat)), ("nt", .int (ws.nt + 1 : Nat))] (.Call (.Name "len" pp) [.Name "count" p₂] [] q) (.int (ws.count.length : Nat)) :=
            Ev.eq (Ev.lenOwn (a := a') (ds := natsDt ws.count) fe.g (fe.kd _ _ rfl) (by simp) (Ev.var hk) (by rw [hcl]; omega)) (by rw [hcl])
          refine execs_join (P := fun t => ∃ a'', a'' ∉ I :: X₀ ∧ (KK w.params).lookup a'' = none ∧ Fn w s' (ownOf e [(a', natsDt ws.count)]) e (I :: a'' :: X₀) [(a'', natsDt ws.wide)] [("self", .own a), ("S", .str " "), ("T", .str "\t"), ("count", .own a''), ("b", .int (ws.b : Nat)), ("n", .int (ws.n + 1 : Nat)), ("nt", .int (ws.nt + 1 : Nat))] t) ?_ fun t₆ ⟨a'', ha'', hKa', G⟩ => ?_
          · refine G.if_ (EvT.cmp (Op2.ge (i := (ws.b : Nat)) (j := (ws.count.length : Nat))) (Ev.var hk) hlenE) (fun hge t₆ G => ?_) fun hge t₆ G => ?_
            · have hge : ws.b ≥ ws.count.length := by simpa using hge
              have hw : ws.wide = ws.count ++ List.replicate (ws.b - ws.count.length + 1) 0 := by unfold Ws.wide; rw [if_pos hge]
              have hperm : Fn w s' (ownOf e [(a', natsDt ws.count)]) e (a' :: I :: X₀) [(a', natsDt ws.count)] _ t₆ := G.lessX (fun b hb => by simp only [List.mem_cons] at hb ⊢; rcases hb with h | h | h <;> simp [h]) (by simp [hlX]) (fun p hp => by simp [hcX p hp]) (by simp)
              refine execs_cons' (hperm.rebindAdd (x := "count") (ds := natsDt ws.count) (es := natsDt (List.replicate (ws.b - ws.count.length + 1) 0)) (by simp only [List.mem_cons, not_or]; exact ⟨Ne.symm hIa, ha'⟩) hk (Ev.var hk) ?_ (by rw [hcl, natsDt_len, z]; simp; omega) (fe.loc (.inl rfl)) (List.mem_cons_of_mem _ hlX) (fun p hp => List.mem_cons_of_mem _ (hcX p hp)) (by simp) fun a'' t₇ ha'' _ hKa' G => ?_)
              · refine Ev.eq (Ev.bin (Op2.mulL (ds := [.int 0]) (k := (ws.b - ws.count.length + 1 : Nat)) (by omega) (by omega) (by simp; omega)) (Ev.lst (EvAll.cons Ev.int EvAll.nil) (by simp; decide)) (Ev.eq (Ev.bin Op2.add (Ev.bin (Op2.sub (i := (ws.b : Nat)) (j := (ws.count.length : Nat))) (Ev.var hk) ?_) Ev.int) ?_)) ?_
                · exact Ev.eq (Ev.lenOwn (a := a') (ds := natsDt ws.count) fe.g (fe.kd _ _ rfl) (by simp) (Ev.var hk) (by rw [hcl]; omega)) (by rw [hcl])
                · congr 1; omega
                · simp only [natsDt, Int.toNat_natCast, List.map_replicate]
                  congr 1
                  generalize ws.b - ws.count.length + 1 = k
                  induction k with
                  | zero => rfl
                  | succ k ih => rw [List.replicate_succ, List.flatten_cons, ih, List.replicate_succ]; rfl
              · refine execs_nil' ⟨rfl, a'', ha'', hKa', ?_⟩
                rw [hw, ← natsDt_app]
                exact (G.norm [("self", .own a), ("S", .str " "), ("T", .str "\t"), ("count", .own a''), ("b", .int (ws.b : Nat)), ("n", .int (ws.n + 1 : Nat)), ("nt", .int (ws.nt + 1 : Nat))] ⟨rfl, rfl, rfl, rfl, rfl, rfl, rfl, trivial⟩).lessX (fun b hb => by simp only [List.mem_cons] at hb ⊢; rcases hb with h | h | h <;> simp [h]) (by simp [hlX]) (fun p hp => by simp [hcX p hp]) (by simp)
            · have hge : ¬ ws.b ≥ ws.count.length := by simpa using hge
              have hw : ws.wide = ws.count := by unfold Ws.wide; rw [if_neg hge]
              refine execs_nil' ⟨rfl, a', by simp only [List.mem_cons, not_or]; exact ⟨Ne.symm hIa, ha'⟩, hKa, ?_⟩
              rw [hw]; exact G
          · have hwl := ws.wide_len
            have hwb := hb.wide
            have hwd := natsDt_len ws.wide
            refine execs_cons' (G.setItem (a := a'') (ds := natsDt ws.wide) (i := ws.b) (d := .int (ws.wide.getD ws.b 0 + 1 : Nat)) (Ev.eq (Ev.bin (Op2.add (i := (ws.wide.getD ws.b 0 : Nat)) (j := 1)) (Ev.subOwn (a := a'') (ds := natsDt ws.wide) (by simp) (Ev.var hk) (Ev.var hk) (by rw [hwd]; exact seqIndex_nat hwl) (natsDt_at hwl) (by rw [hwd]; omega)) Ev.int) rfl) (Ev.var hk) (Ev.var hk) (by simp) hKa' (by rw [hwd]; exact hwl) (by rw [hwd, z]; omega) fun t₇ G => ?_)
            refine execs_cons' (G.assign Ev.int hk (fe.loc (.inl rfl)) fun t₈ G => ?_)
            refine execs_nil' (execs_nil' (execs_nil' ⟨a'' :: X₀, [(a'', natsDt ws.tab.count)], inG a a'' ws.tab, ⟨a'', ws.tab, rfl, fun h => ha'' (List.mem_cons_of_mem _ h), hKa', rfl, ⟨rfl, rfl, rfl, rfl, rfl, rfl, rfl, trivial⟩, hb.tab, hgo⟩, ?_, ?_⟩))
            · simp only [List.mem_cons, not_or] at ha'' ⊢
              exact ⟨fun q => ha''.1 q.symm, hIX₀⟩
            · have e1 : setOw [(a'', natsDt ws.wide)] a'' ((natsDt ws.wide).set ws.b (.int (ws.wide.getD ws.b 0 + 1 : Nat))) = [(a'', natsDt ws.tab.count)] := by
                simp only [setOw, List.map_cons, List.map_nil, if_true, Ws.tab, natsDt_set]
              rw [← e1]; exact G.norm _ ⟨rfl, rfl, rfl, rfl, rfl, rfl, rfl, trivial⟩
        · have h9 : ¬ c = 9 := by simpa using h9
          rw [if_neg h9] at hgo
          subst hgo
          exact execs_cons' (Wp.brk ⟨a' :: X₀, [(a', natsDt (wsOf l).count)], _, List.mem_cons_of_mem _ hlX, fun p hp => List.mem_cons_of_mem _ (hcX p hp), by simp, G, fun s₄ H _ => ⟨rfl, a', ha', H.norm _ ⟨rfl, rfl, rfl, rfl, rfl, rfl, rfl, trivial⟩⟩⟩)
    · obtain ⟨a', ws, rfl, ha', _, rfl, hΓ, _, hgo⟩ := hI
      have hsz : (S l).cps.size = l.length := by simp
      rw [hsz, List.drop_length] at hgo
      have hgo : ws = wsOf l := hgo
      subst hgo
      exact ⟨rfl, a', ha', G.norm _ hΓ⟩
  · have G := (G.disown (x := "count") ha' (by simp) hlX hcX (by simp)).norm [("self", .own a), ("count", .lst (natsDt (wsOf l).count)), ("b", .int ((wsOf l).b : Nat)), ("n", .int ((wsOf l).n : Nat)), ("nt", .int ((wsOf l).nt : Nat))] ⟨rfl, rfl, rfl, rfl, rfl, trivial⟩
    have S6 := later G X₀
    have F := F.up' G
    have hcl := natsDt_len (wsOf l).count
    have hcb : (wsOf l).count.length ≤ 200000 := by have := (wsGo_b (s := ws0) (k := 0) ⟨by decide, by decide, by decide, by decide⟩ l).len; unfold wsOf; omega
    refine execs_cons' (F.setAttr (Ev.var hk) (Ev.var hk) S6 haX' hdX' (.inl List.mem_cons_self) hKd hdl ha83 fun s₇ F S7 => ?_)
    refine execs_cons' (F.setAttr (Ev.var hk) (Ev.var hk) S7 haX' hdX' (.inl List.mem_cons_self) hKd hdl ha83 fun s₈ F S8 => ?_)
    refine execs_cons' (F.setAttr (d := wsNorm (wsOf l)) (Ev.var hk) (Ev.tup (EvAll.cons (Ev.call fe.g (fe.kd _ _ rfl) (gl_tuple _) (.ty _) (EvAll.cons (Ev.var hk) EvAll.nil) (OpC.tuple (ds := natsDt (wsOf l).count) (by rw [hcl, z]; omega))) (EvAll.cons (Ev.var hk) EvAll.nil)) (by simp; decide)) S8 haX' hdX' (.inl List.mem_cons_self) hKd hdl ha83 fun s₉ F S9 => ?_)
    refine execs_cons' (F.setAttr (d := .bool (decide ((wsOf l).count.length ≤ 1))) (Ev.var hk) (Ev.eq (Ev.cmp (Op2.le (i := ((wsOf l).count.length : Nat)) (j := 1)) (Ev.eq (Ev.call fe.g (fe.kd _ _ rfl) (gl_len _) (.blt _) (EvAll.cons (Ev.var hk) EvAll.nil) (OpC.len (ds := natsDt (wsOf l).count) (by rw [hcl]; omega))) (by rw [hcl])) Ev.int) (by rw [show decide (((wsOf l).count.length : Int) ≤ 1) = decide ((wsOf l).count.length ≤ 1) from decide_eq_decide.mpr (by omega)])) S9 haX' hdX' (.inl List.mem_cons_self) hKd hdl ha83 fun sA F SA => ?_)
    refine execs_nil' ⟨rfl, ⟨F.tk0, F.same, fun b o hb ho => F.keep0 b o (fun hm => ?_) ho⟩, ?_⟩
    · rcases List.mem_cons.mp hm with q | hm
      · exact hb (by simp [q])
      · exact inOut b o ho hm
    · exact SA.ext (fun b o hb ho => ⟨ho, fun h hX => h (by rw [← hX₀]; exact List.mem_cons_of_mem _ (List.mem_append_right _ hX))⟩) haX'
end
end Mine

namespace Mine
open PySem PySem.W PyProof.Rows PySem.SeqAt

section
variable {w : World} {A : Around} {X : List Addr} {e : Env} {Ow : Owns} {Γ : List (Str × Dt)} {s : Shared}
theorem Room.under {n : Nat} (r : Room (n + 1) A) (C : Addr) (rest : List Value) : Room n (A.under (.builtin "type.__call__" ⟨.ref C :: rest, []⟩)) := by
  have h1 : (Code.builtin "type.__call__" ⟨.ref C :: rest, []⟩).weight = 1 := by kernel_rfl
  have h2 : (Code.builtin "type.__call__" ⟨.ref C :: rest, []⟩).cUnits = 1 := by kernel_rfl
  refine ⟨r.hd, ?_, ?_⟩
  · have := r.dp
    show A.depth + (Code.builtin "type.__call__" ⟨.ref C :: rest, []⟩).weight + n < _
    rw [h1]; omega
  · have := r.un
    show A.units + (Code.builtin "type.__call__" ⟨.ref C :: rest, []⟩).cUnits + 8 * n < _
    rw [h2]; omega
theorem Kw.kp {dx : Addr} {s₀ s s' : Shared} (k0 : Kp s₀ s) (k : Kw [dx] s s') (hn : s₀.heap.get? dx = none) : Kp s₀ s' := by
  obtain ⟨tk, ⟨h, t, rfl⟩, kk⟩ := k
  have tk0 := k0.tk
  have ex := k0.ext
  obtain ⟨⟨h2, t2, rfl, _⟩, _⟩ := k0
  refine ⟨⟨h, t, rfl, fun b o ho => kk b o (fun hm => ?_) (ex b o ho)⟩, Nat.le_trans tk0 tk⟩
  rw [List.mem_singleton.mp hm, hn] at ho; cases ho
theorem Self.is {h : Heap} {X' : List Addr} {a dx : Addr} {raw : Str} {W : Ws} (S : Self h (dx :: X') a dx (wsAttrs raw W)) (ha : a ∉ X') (hd : dx ∉ X') : Is h X' (.inst (wsDt raw W)) (.ref a) := by
  obtain ⟨m, hi, hl⟩ := S.ii
  obtain ⟨v1, a1, b1⟩ := hl _ (show ((("is_simple" : Str), Dt.bool (decide (W.count.length ≤ 1))) : Str × Dt) ∈ wsAttrs raw W by simp [wsAttrs])
  obtain ⟨v2, a2, b2⟩ := hl _ (show ((("norm" : Str), wsNorm W) : Str × Dt) ∈ wsAttrs raw W by simp [wsAttrs])
  obtain ⟨v3, a3, b3⟩ := hl _ (show ((("nt" : Str), Dt.int (W.nt : Nat)) : Str × Dt) ∈ wsAttrs raw W by simp [wsAttrs])
  obtain ⟨v4, a4, b4⟩ := hl _ (show ((("n" : Str), Dt.int (W.n : Nat)) : Str × Dt) ∈ wsAttrs raw W by simp [wsAttrs])
  obtain ⟨v5, a5, b5⟩ := hl _ (show ((("raw" : Str), Dt.str raw) : Str × Dt) ∈ wsAttrs raw W by simp [wsAttrs])
  have l : ∀ {d v}, Is h (dx :: X') d v → Is h X' d v := fun i => i.less fun b hb => List.mem_cons_of_mem _ hb
  simp only [Is]
  refine ⟨a, dx, m, [v5, v4, v3, v2, v1], rfl, ha, hd, hi, ?_, ?_⟩
  · simp only [wsNames, List.map_cons, List.map_nil]
    rw [a1, a2, a3, a4, a5]
  · simp only [wsDt, IsAll]
    exact ⟨_, _, rfl, l b5, _, _, rfl, l b4, _, _, rfl, l b3, _, _, rfl, l b2, _, _, rfl, l b1, rfl⟩
set_option maxHeartbeats 1000000 in
theorem op_new {l : List Nat} (hlen : l.length ≤ 100000) (r : Room 2 A) : OpC w A X (.ref 83) [.str (S l)] (.inst (wsDt (S l) (wsOf l))) := .mk fun s vs tk wd x i => by
  obtain ⟨v, rfl, iv⟩ := i.one
  obtain ⟨oc, od, sl, lk⟩ := (fn38 w.params).lk
  obtain ⟨hh, g, dr, t, os⟩ := s
  refine wpAny_call_obj_init PySem.F.objNew wd.cls wd.clsNs ws_special.2.2.2 (wd 38 _ rfl) rfl fun h' xa dx hm => ?_
  have kp0 : Kp ⟨hh, g, dr, t, os⟩ ⟨h', g, dr, t, os⟩ := Kp.mk' (s := ⟨hh, g, dr, t, os⟩) (h := h') (t := t) hm.keeps
  have c := kp0.ext
  have x' : Xin X ⟨h', g, dr, t, os⟩ := Xin.keep x kp0
  have wd' : Wd w h' := wd.keep hm.keeps
  have nX : ∀ {b : Addr}, hh.get? b = none → b ∉ X := fun hb h => by obtain ⟨o, ho⟩ := x _ h; dsimp only at ho; rw [hb] at ho; cases ho
  have nK : ∀ {b : Addr}, hh.get? b = none → (KK w.params).lookup b = none := fun {b} hb => by
    cases q : (KK w.params).lookup b with
    | none => rfl
    | some o => have := wd b o q; dsimp only at this; rw [hb] at this; cases this
  obtain ⟨ox, hox, hcx, hncx, hdx⟩ := id hm.inst
  have hdict := hm.dict ox hox
  rcases hdx with ⟨q, _⟩ | ⟨d', q, hne, hns⟩
  · rw [hdict] at q; cases q
  rw [hdict] at q
  cases q
  have hdo : ∃ o, h'.get? dx = some o := by obtain ⟨o, _, _, ho, _⟩ := hns; exact ⟨o, ho⟩
  have ha83 : xa ≠ 83 := fun q => by
    have := wd 83 _ rfl
    have h2 := hm.newX
    rw [q] at h2
    dsimp only at this
    rw [h2] at this; cases this
  have S0 : Self h' (dx :: X) xa dx [] := ⟨fun _ => none, ⟨⟨ox, hox, hcx, hdict, hncx⟩, hne, hns, fun _ _ => rfl⟩, fun p hp => (nomatch hp)⟩
  have haX := nX hm.newX
  have hdX := nX hm.newD
  refine wpb (call_init (X := dx :: X) hlen (r.under 83 [v]) (s := ⟨h', g, dr, t, os⟩) tk wd' (fun b hb => ?_) List.mem_cons_self (fun hm' => ?_) ha83 S0 (nK hm.newD) (iv.ext fun b o hb ho => ⟨hm.keeps b o ho, fun hm' => ?_⟩)) fun rv s' ⟨h1, h2, h3⟩ => ⟨h1, h2.kp kp0 hm.newD, h3.is haX hdX⟩
  · rcases List.mem_cons.mp hb with rfl | hb
    · exact hdo
    · exact x' b hb
  · rcases List.mem_cons.mp hm' with q | h
    · exact hne q.symm
    · exact haX h
  · rcases List.mem_cons.mp hm' with q | h
    · have := hm.newD
      rw [← q, ho] at this; cases this
    · exact hb h
end
end Mine

namespace Mine
open PySem PySem.W

/-! ## what Whitespace's methods answer -/
noncomputable def eqN (x y : Ws) : Bool := x.count == y.count && x.b == y.b
theorem norm_deq (x y : Ws) : deq (wsNorm x) (wsNorm y) = eqN x y := by
  unfold wsNorm eqN
  simp only [deq, deqs, nats_deqs, List.isEmpty_nil, Bool.and_true]
  congr 1
  rw [Bool.eq_iff_iff]; simp; omega
theorem norm_dkin (x y : Ws) : dkin 2 (wsNorm x) (wsNorm y) = true := by
  unfold wsNorm
  simp [dkin, dkins, nats_dkins]
noncomputable def lrs (x : Ws) : Int := if (x.b : Int) > (x.count.length : Int) - 1 then (x.b : Int) else (x.count.length : Int) - 1
/-- the sum over the first k turns -/
noncomputable def ilK (c : List Nat) (ts : Nat) : Nat → Nat
  | 0 => 0
  | k + 1 => ilK c ts k + (ts + k) / ts * c.getD (ts + k) 0
noncomputable def ind (x : Ws) (ts : Nat) : Nat := x.b + ts * (ilK x.count ts (x.count.length - ts) + x.nt)
noncomputable def simpleW (x : Ws) : Bool := decide (x.count.length ≤ 1)
noncomputable def lessN (x y : Ws) : Nat := ((if lrs y > lrs x then lrs y else lrs x)).toNat
noncomputable def lessW (x y : Ws) : Bool :=
  if x.n ≥ y.n then false else if simpleW x && simpleW y then decide (x.nt ≤ y.nt) else (List.range (lessN x y)).all fun k => decide (ind x (k + 2) < ind y (k + 2))
theorem lrs_ge (x : Ws) : 0 ≤ lrs x := by unfold lrs; split <;> omega
end Mine

namespace Mine
open PySem PySem.W PyProof.Rows PySem.SeqAt

section
variable {w : World} {A : Around} {X : List Addr} {e : Env} {Ow : Owns} {Γ : List (Str × Dt)} {s : Shared}
theorem bits_small {n : Nat} (h : n < 2 ^ 64) : Builtin.Int.intBits (n : Int) ≤ 64 := by
  unfold Builtin.Int.intBits
  split
  · omega
  · rename_i hn
    have h0 : n ≠ 0 := fun q => hn (by rw [q]; rfl)
    rw [Int.natAbs_natCast]
    exact (Nat.log2_lt h0).mpr h
theorem Op2.mul {i j : Int} (hi : Builtin.Int.intBits i ≤ 64) : Op2 w A X (binaryOp .Mult) (.int i) (.int j) (.int (i * j)) := .mk fun s a b _ _ _ h₁ h₂ => by
  simp only [Is] at h₁ h₂; obtain ⟨t, rfl⟩ := h₁; obtain ⟨u, rfl⟩ := h₂
  exact PyProof.Rows.mul_int ⟨Kp.tok _ _, by simp only [Is]; exact ⟨_, rfl⟩⟩ (IntMulOk.of_left hi)

theorem op_equal {r1 r2 : Str} {x y : Ws} (r : Room 2 A) : OpC w A X (.ref 59) [.inst (wsDt r1 x), .inst (wsDt r2 y)] (.bool (eqN x y)) := .mk fun s vs tk wd xx i => by
  obtain ⟨v, v', rfl, iv, iv'⟩ := i.two
  refine call_fn (names := ["self", "other"]) (fn59 _) r tk wd xx i rfl rfl (by rfl) (by decide) fun e s₁ he r' hown F => ?_
  have fe : Fe (fScope (inCls 2 4)).names e := by subst he; exact Fe.of (fn59 _)
  clear he
  have hk := fe.hk
  have hu := r'.un
  exact execs_cons' (F.ret (Ev.eq (Ev.cmp (Op2.eq 2 (norm_dkin x y) (by omega)) (Ev.attr 3 (Ev.var hk)) (Ev.attr 3 (Ev.var hk))) (by rw [norm_deq])) fun v s₅ F iv => ⟨F.kept hown, iv.less fun a ha => List.mem_cons_of_mem _ (List.mem_append_right _ ha)⟩)
theorem op_longest {r1 : Str} {x : Ws} (hx : x.count.length ≤ 1000000) (r : Room 2 A) : OpC w A X (.ref 45) [.inst (wsDt r1 x)] (.int (lrs x)) := .mk fun s vs tk wd xx i => by
  obtain ⟨v, rfl, iv⟩ := i.one
  refine call_fn (names := ["self"]) (fn45 _) r tk wd xx i rfl rfl (by rfl) (by decide) fun e s₁ he r' hown F => ?_
  have fe : Fe (fScope (inCls 2 2)).names e := by subst he; exact Fe.of (fn45 _)
  clear he
  have hk := fe.hk
  have hl := natsDt_len x.count
  refine execs_cons' (F.assignTup (ds := [.tup (natsDt x.count), .int (x.b : Nat)]) (Ev.attr 3 (Ev.var hk)) r'.hd hk (fe.st (by rfl)) rfl fun s₂ F => ?_)
  exact execs_cons' (F.ret (d := .int (lrs x)) (Ev.call fe.g (fe.kd _ _ rfl) (gl_max _) (.blt _) (EvAll.cons (Ev.bin (Op2.sub (i := (x.count.length : Nat)) (j := 1)) (Ev.eq (Ev.call fe.g (fe.kd _ _ rfl) (gl_len _) (.blt _) (EvAll.cons (Ev.var hk) EvAll.nil) (OpC.lenT (ds := natsDt x.count) (by rw [hl]; omega))) (by rw [hl])) Ev.int) (EvAll.cons (Ev.var hk) EvAll.nil)) (OpC.max2 (i := (x.count.length : Int) - 1) (j := (x.b : Int)) r'.hd))
    fun v s₅ F iv => ⟨F.kept hown, iv.less fun a ha => List.mem_cons_of_mem _ (List.mem_append_right _ ha)⟩)
set_option maxHeartbeats 1000000 in
theorem op_indent {r1 : Str} {x : Ws} {ts : Nat} (hx : x.count.length ≤ 1000000) (hts : 0 < ts ∧ ts ≤ 1000000) (r : Room 2 A) : OpC w A X (.ref 52) [.inst (wsDt r1 x), .int (ts : Nat)] (.int (ind x ts : Nat)) := .mk fun s vs tk wd xx i => by
  obtain ⟨v, v', rfl, iv, iv'⟩ := i.two
  refine call_fn (names := ["self", "tabsize"]) (fn52 _) r tk wd xx i rfl rfl (by rfl) (by decide) fun e s₁ he r' hown F => ?_
  have fe : Fe (fScope (inCls 2 3)).names e := by subst he; exact Fe.of (fn52 _)
  clear he
  have hk := fe.hk
  have hl := natsDt_len x.count
  refine execs_cons' (F.assignTup (ds := [.tup (natsDt x.count), .int (x.b : Nat)]) (Ev.attr 3 (Ev.var hk)) r'.hd hk (fe.st (by rfl)) rfl fun s₂ F => ?_)
  refine execs_cons' (F.assign Ev.int hk (fe.loc (.inl rfl)) fun s₃ F => ?_)
  have F := F.norm [("il", .int (ilK x.count ts 0 : Nat)), ("self", .inst (wsDt r1 x)), ("tabsize", .int (ts : Nat)), ("count", .tup (natsDt x.count)), ("trailing", .int (x.b : Nat))] ⟨rfl, rfl, rfl, rfl, rfl, trivial⟩
  have hrl : (rangeDt (ts : Int) ((x.count.length : Int) - (ts : Int)).toNat).length = x.count.length - ts := by simp [rangeDt]
  refine execs_cons' (F.for_ (src := rangeDt (ts : Int) ((x.count.length : Int) - (ts : Int)).toNat) (EvIt.range2' fe.g r'.hd (fe.kd _ _ rfl) (gl_range _) (EvAll.cons (Ev.var hk) (EvAll.cons (Ev.eq (Ev.call fe.g (fe.kd _ _ rfl) (gl_len _) (.blt _) (EvAll.cons (Ev.var hk) EvAll.nil) (OpC.lenT (ds := natsDt x.count) (by rw [hl]; omega))) (by rw [hl])) EvAll.nil)) (by omega) (by omega) (by omega) (by omega))
    (fun i Ow Γ => Ow = [] ∧ AllHas [("il", .int (ilK x.count ts i : Nat)), ("self", .inst (wsDt r1 x)), ("tabsize", .int (ts : Nat)), ("count", .tup (natsDt x.count)), ("trailing", .int (x.b : Nat))] Γ) ⟨rfl, ⟨rfl, rfl, rfl, rfl, rfl, trivial⟩⟩ (fun i d Ow' Γ' wr s' v hd hI _ F hv => ?_) (fun Ow' Γ' s' hI _ F => ?_))
  · obtain ⟨rfl, hΓ⟩ := hI
    have F := F.norm _ hΓ
    obtain ⟨hi, rfl⟩ := rangeDt_get hd
    have hi' : ts + i < x.count.length := by omega
    refine wpAny_assign_Name (F.store (x := "i") hk hv (fe.loc (.inl rfl)) rfl fun s₄ F => ?_)
    have F := F.norm [("i", .int ((ts + i : Nat) : Int)), ("il", .int (ilK x.count ts i : Nat)), ("self", .inst (wsDt r1 x)), ("tabsize", .int (ts : Nat)), ("count", .tup (natsDt x.count)), ("trailing", .int (x.b : Nat))] ⟨rfl, rfl, rfl, rfl, rfl, rfl, trivial⟩
    have hdiv : ((ts + i : Nat) : Int).fdiv (ts : Int) = (((ts + i) / ts : Nat) : Int) := by
      rw [Int.fdiv_eq_ediv_of_nonneg _ (by omega)]; rfl
    have hdl : (ts + i) / ts ≤ ts + i := Nat.div_le_self _ _
    refine execs_cons' (F.assign (d := .int (ilK x.count ts (i + 1) : Nat)) (Ev.eq (Ev.bin Op2.add (Ev.var hk) (Ev.bin (Op2.mul (i := (((ts + i) / ts : Nat) : Int)) (j := (x.count.getD (ts + i) 0 : Nat)) (bits_small (by omega))) (Ev.eq (Ev.bin (Op2.div (i := ((ts + i : Nat) : Int)) (j := (ts : Int)) (by omega) (by omega)) (Ev.var hk) (Ev.var hk)) (by rw [hdiv]))
      (Ev.sub (d₁ := .tup (natsDt x.count)) (Op2.idxT (by rw [hl]; exact seqIndex_nat hi') (natsDt_at hi') (by rw [hl]; omega)) (Ev.var hk) (Ev.var hk)))) (by simp [ilK])) hk (fe.loc (.inl rfl)) fun s₅ F => ?_)
    exact execs_nil' ⟨[], _, ⟨rfl, ⟨rfl, rfl, rfl, rfl, rfl, trivial⟩⟩, rfl, F⟩
  · obtain ⟨rfl, hΓ⟩ := hI
    have F := F.norm _ hΓ
    rw [hrl] at F
    exact execs_cons' (F.ret (d := .int (ind x ts : Nat)) (Ev.eq (Ev.bin Op2.add (Ev.var hk) (Ev.bin (Op2.mul (i := (ts : Int)) (bits_small (by omega))) (Ev.var hk) (Ev.bin Op2.add (Ev.var hk) (Ev.attr 2 (Ev.var hk))))) (by simp [ind]))
      fun v s₅ F iv => ⟨F.kept hown, iv.less fun a ha => List.mem_cons_of_mem _ (List.mem_append_right _ ha)⟩)
end
end Mine

namespace Mine
open PySem PySem.W PyProof.Rows PySem.SeqAt

theorem wm_longest (P : Params) : wsMap P "longest_run_of_spaces" = some (.ref 45) := by kernel_rfl
theorem wm_indent (P : Params) : wsMap P "indent_level" = some (.ref 52) := by kernel_rfl
theorem wm_equal (P : Params) : wsMap P "equal" = some (.ref 59) := by kernel_rfl
theorem wm_less (P : Params) : wsMap P "less" = some (.ref 73) := by kernel_rfl
theorem ob_longest : typeLookup (.type "object") "longest_run_of_spaces" = pure none := by rw [typeLookup_type, builtinLookup_eq_fast]; kernel_rfl
theorem ob_indent : typeLookup (.type "object") "indent_level" = pure none := by rw [typeLookup_type, builtinLookup_eq_fast]; kernel_rfl
theorem ob_equal : typeLookup (.type "object") "equal" = pure none := by rw [typeLookup_type, builtinLookup_eq_fast]; kernel_rfl
theorem ob_less : typeLookup (.type "object") "less" = pure none := by rw [typeLookup_type, builtinLookup_eq_fast]; kernel_rfl
section
variable {w : World} {A : Around} {X : List Addr} {e : Env} {Ow : Owns} {Γ : List (Str × Dt)} {s : Shared}
theorem Ev.longest {o : Expr} {apos pos : Pos} {r1 : Str} {x : Ws} (hx : x.count.length ≤ 1000000) (r : Room 2 A) (ho : Ev w A e X Ow Γ o (.inst (wsDt r1 x))) (hbase : attributeBase o "longest_run_of_spaces" e (eval o e) = eval o e := by rfl)
    (hline : (apos.endLine == pos.line) = true := by rfl) : Ev w A e X Ow Γ (.Call (.Attribute o "longest_run_of_spaces" apos) [] [] pos) (.int (lrs x)) :=
  Ev.methI0 (fn45 _) ⟨_, _, _, rfl⟩ (wm_longest _) ob_longest (by decide) ho (op_longest hx r) hbase rfl hline
theorem Ev.indent {o a : Expr} {apos pos : Pos} {r1 : Str} {x : Ws} {ts : Nat} (hx : x.count.length ≤ 1000000) (hts : 0 < ts ∧ ts ≤ 1000000) (r : Room 2 A) (ho : Ev w A e X Ow Γ o (.inst (wsDt r1 x))) (ha : EvAll w A e X Ow Γ pos [a] [.int (ts : Nat)]) (hbase : attributeBase o "indent_level" e (eval o e) = eval o e := by rfl)
    (hst : ∃ x r, backTo pos (starEach [a] e) = (false, x) :: r := by exact ⟨_, _, rfl⟩) (hline : (apos.endLine == pos.line) = true := by rfl)
    (hfew : ((backTo pos (starEach [a] e)).all (fun x => !x.1) && (backToKw pos (keywordEach [] e)).all (fun x => x.1.isSome)
      && decide (([a] : List Expr).length + ([] : List Keyword).length + (if ([] : List Keyword).isEmpty then 0 else 1) < 30)) = true := by rfl) : Ev w A e X Ow Γ (.Call (.Attribute o "indent_level" apos) [a] [] pos) (.int (ind x ts : Nat)) :=
  Ev.methI (fn52 _) ⟨_, _, _, rfl⟩ (wm_indent _) ob_indent (by decide) ho ha (op_indent hx hts r) hst hbase hfew hline
theorem Ev.equal {o a : Expr} {apos pos : Pos} {r1 r2 : Str} {x y : Ws} (r : Room 2 A) (ho : Ev w A e X Ow Γ o (.inst (wsDt r1 x))) (ha : EvAll w A e X Ow Γ pos [a] [.inst (wsDt r2 y)]) (hbase : attributeBase o "equal" e (eval o e) = eval o e := by rfl)
    (hst : ∃ x r, backTo pos (starEach [a] e) = (false, x) :: r := by exact ⟨_, _, rfl⟩) (hline : (apos.endLine == pos.line) = true := by rfl)
    (hfew : ((backTo pos (starEach [a] e)).all (fun x => !x.1) && (backToKw pos (keywordEach [] e)).all (fun x => x.1.isSome)
      && decide (([a] : List Expr).length + ([] : List Keyword).length + (if ([] : List Keyword).isEmpty then 0 else 1) < 30)) = true := by rfl) : Ev w A e X Ow Γ (.Call (.Attribute o "equal" apos) [a] [] pos) (.bool (eqN x y)) :=
  Ev.methI (fn59 _) ⟨_, _, _, rfl⟩ (wm_equal _) ob_equal (by decide) ho ha (op_equal r) hst hbase hfew hline

set_option maxHeartbeats 1000000 in
theorem op_less {r1 r2 : Str} {x y : Ws} (hx : x.count.length ≤ 500000 ∧ x.b ≤ 500000) (hy : y.count.length ≤ 500000 ∧ y.b ≤ 500000) (r : Room 4 A) : OpC w A X (.ref 73) [.inst (wsDt r1 x), .inst (wsDt r2 y)] (.bool (lessW x y)) := .mk fun s vs tk wd xx i => by
  obtain ⟨v, v', rfl, iv, iv'⟩ := i.two
  refine call_fn (names := ["self", "other"]) (fn73 _) r tk wd xx i rfl rfl (by rfl) (by decide) fun e s₁ he r' hown F => ?_
  have fe : Fe (fScope (inCls 2 6)).names e := by subst he; exact Fe.of (fn73 _)
  clear he
  have hk := fe.hk
  have fin : ∀ {Γ' b} (s' : Shared) (v : Value), Fn w s (ownOf e []) e (outOf e X) [] Γ' s' → Is s'.heap (outOf e X) (.bool b) v → b = lessW x y → Kp s s' ∧ Is s'.heap X (.bool (lessW x y)) v := fun s' v F iv hb =>
    ⟨F.kept hown, hb ▸ iv.less fun a ha => List.mem_cons_of_mem _ (List.mem_append_right _ ha)⟩
  refine execs_cons' (F.if_ (EvT.cmp (Op2.ge (i := (x.n : Nat)) (j := (y.n : Nat))) (Ev.attr 1 (Ev.var hk)) (Ev.attr 1 (Ev.var hk))) (fun hn s₂ F => ?_) fun hn s₂ F => execs_nil' ?_)
  · have hn : x.n ≥ y.n := by simpa using hn
    exact execs_cons' (F.ret Ev.bool fun v s₅ F iv => fin _ _ F iv (by unfold lessW; rw [if_pos hn]))
  · have hn : ¬ x.n ≥ y.n := by simpa using hn
    refine execs_cons' (F.if_ (b := simpleW x && (simpleW y && true)) (EvT.and (EvT.of (Ev.attr 4 (Ev.var hk)) OpT.bool) fun _ => EvT.and (EvT.of (Ev.attr 4 (Ev.var hk)) OpT.bool) fun _ => EvT.andN) (fun hs s₃ F => ?_) fun hs s₃ F => execs_nil' ?_)
    · have hs : (simpleW x && simpleW y) = true := by simpa using hs
      exact execs_cons' (F.ret (Ev.cmp (Op2.le (i := (x.nt : Nat)) (j := (y.nt : Nat))) (Ev.attr 2 (Ev.var hk)) (Ev.attr 2 (Ev.var hk))) fun v s₅ F iv => fin _ _ F iv (by
        unfold lessW; rw [if_neg hn, if_pos hs]; exact decide_eq_decide.mpr (by omega)))
    · have hs : ¬(simpleW x && simpleW y) = true := by simpa using hs
      have hlx := lrs_ge x
      have hly := lrs_ge y
      have hlx' : lrs x ≤ 500000 := by unfold lrs; split <;> omega
      have hly' : lrs y ≤ 500000 := by unfold lrs; split <;> omega
      have hNle : lessN x y ≤ 500000 := by unfold lessN; split <;> omega
      have hN : (if lrs y > lrs x then lrs y else lrs x) = (lessN x y : Int) := by unfold lessN; split <;> omega
      refine execs_cons' (F.assign (d := .int ((lessN x y : Int) + 1)) (Ev.bin Op2.add (Ev.eq (Ev.call fe.g (fe.kd _ _ rfl) (gl_max _) (.blt _) (EvAll.cons (Ev.longest (r1 := r1) (x := x) (by omega) (r'.less) (Ev.var hk)) (EvAll.cons (Ev.longest (r1 := r2) (x := y) (by omega) (r'.less) (Ev.var hk)) EvAll.nil)) (OpC.max2 r'.hd)) (by rw [hN])) Ev.int) hk (fe.loc (.inl rfl)) fun s₄ F => ?_)
      have F := F.norm [("n", .int ((lessN x y : Int) + 1)), ("self", .inst (wsDt r1 x)), ("other", .inst (wsDt r2 y))] ⟨rfl, rfl, rfl, trivial⟩
      refine execs_cons' (F.for_ (src := rangeDt (2 : Int) (((lessN x y : Int) + 1 + 1) - (2 : Int)).toNat) (EvIt.range2' fe.g r'.hd (fe.kd _ _ rfl) (gl_range _) (EvAll.cons Ev.int (EvAll.cons (Ev.bin Op2.add (Ev.var hk) Ev.int) EvAll.nil)) (by omega) (by omega) (by omega) (by omega))
        (fun i Ow Γ => Ow = [] ∧ AllHas [("self", .inst (wsDt r1 x)), ("other", .inst (wsDt r2 y))] Γ ∧ ∀ k < i, ind x (k + 2) < ind y (k + 2)) ⟨rfl, ⟨rfl, rfl, trivial⟩, fun k hk => by omega⟩ (fun i d Ow' Γ' wr s' v hd hI _ F hv => ?_) (fun Ow' Γ' s' hI _ F => ?_))
      · obtain ⟨rfl, hΓ, hall⟩ := hI
        have F := F.norm _ hΓ
        obtain ⟨hi, rfl⟩ := rangeDt_get hd
        have hi' : i < lessN x y := by omega
        refine wpAny_assign_Name (F.store (x := "ts") (d := .int ((i + 2 : Nat) : Int)) hk (by rw [show ((i + 2 : Nat) : Int) = 2 + (i : Int) by omega]; exact hv) (fe.loc (.inl rfl)) rfl fun s₄ F => ?_)
        have F := F.norm [("ts", .int ((i + 2 : Nat) : Int)), ("self", .inst (wsDt r1 x)), ("other", .inst (wsDt r2 y))] ⟨rfl, rfl, rfl, trivial⟩
        refine execs_cons' (F.if_ (EvT.cmp (Op2.ge (i := (ind x (i + 2) : Nat)) (j := (ind y (i + 2) : Nat))) (Ev.indent (r1 := r1) (x := x) (by omega) (by omega) (r'.less) (Ev.var hk) (EvAll.cons (Ev.var hk) EvAll.nil)) (Ev.indent (r1 := r2) (x := y) (by omega) (by omega) (r'.less) (Ev.var hk) (EvAll.cons (Ev.var hk) EvAll.nil))) (fun hg s₅ F => ?_) fun hg s₅ F => execs_nil' ?_)
        · have hg : ¬ ind x (i + 2) < ind y (i + 2) := by have : ind x (i + 2) ≥ ind y (i + 2) := (by simpa using hg); omega
          refine execs_cons' (F.ret Ev.bool fun v s₅ F iv => ⟨[], _, _, rfl, F, iv, fun s₄ G iv => fin _ _ G iv ?_⟩)
          unfold lessW
          rw [if_neg hn, if_neg hs]
          symm
          rw [List.all_eq_false]
          exact ⟨i, by simp [hi'], by simpa using hg⟩
        · have hg : ind x (i + 2) < ind y (i + 2) := by have : ¬ ind x (i + 2) ≥ ind y (i + 2) := (by simpa using hg); omega
          refine execs_nil' ⟨[], _, ⟨rfl, ⟨rfl, rfl, trivial⟩, fun k hk => ?_⟩, rfl, F⟩
          by_cases q : k = i
          · exact q ▸ hg
          · exact hall k (by omega)
      · obtain ⟨rfl, hΓ, hall⟩ := hI
        have hlen : (rangeDt (2 : Int) (((lessN x y : Int) + 1 + 1) - (2 : Int)).toNat).length = lessN x y := by simp [rangeDt]; omega
        rw [hlen] at hall
        refine execs_cons' (F.ret Ev.bool fun v s₅ F iv => fin _ _ F iv ?_)
        unfold lessW
        rw [if_neg hn, if_neg hs]
        symm
        rw [List.all_eq_true]
        intro k hk
        have := hall k (by simpa using hk)
        simpa using this
theorem Ev.less' {o a : Expr} {apos pos : Pos} {r1 r2 : Str} {x y : Ws} (hx : x.count.length ≤ 500000 ∧ x.b ≤ 500000) (hy : y.count.length ≤ 500000 ∧ y.b ≤ 500000) (r : Room 4 A) (ho : Ev w A e X Ow Γ o (.inst (wsDt r1 x))) (ha : EvAll w A e X Ow Γ pos [a] [.inst (wsDt r2 y)]) (hbase : attributeBase o "less" e (eval o e) = eval o e := by rfl)
    (hst : ∃ x r, backTo pos (starEach [a] e) = (false, x) :: r := by exact ⟨_, _, rfl⟩) (hline : (apos.endLine == pos.line) = true := by rfl)
    (hfew : ((backTo pos (starEach [a] e)).all (fun x => !x.1) && (backToKw pos (keywordEach [] e)).all (fun x => x.1.isSome)
      && decide (([a] : List Expr).length + ([] : List Keyword).length + (if ([] : List Keyword).isEmpty then 0 else 1) < 30)) = true := by rfl) : Ev w A e X Ow Γ (.Call (.Attribute o "less" apos) [a] [] pos) (.bool (lessW x y)) :=
  Ev.methI (fn73 _) ⟨_, _, _, rfl⟩ (wm_less _) ob_less (by decide) ho ha (op_less hx hy r) hst hbase hfew hline
end
end Mine

namespace Mine
open PySem PySem.W

/-! ## the leads: at most three pieces of four -/
noncomputable def pcs : List (List Nat) := [[32], [9], [32, 32, 9], [32, 9, 32]]
noncomputable def pcOf (k : Nat) : List Nat := pcs.getD k []
noncomputable def ix4 (c : Int) : Nat := ((c.fdiv 3).fmod 4).toNat
theorem ix4_lt (c : Int) : ix4 c < 4 ∧ (c.fdiv 3).fmod 4 = (ix4 c : Nat) := by
  have h1 := Int.fmod_nonneg_of_pos (c.fdiv 3) (b := 4) (by decide)
  have h2 := Int.fmod_lt_of_pos (c.fdiv 3) (b := 4) (by decide)
  unfold ix4; omega
noncomputable def leadE (ps : List Nat) : List Nat := (ps.map pcOf).flatten
noncomputable def pcTexts (ps : List Nat) : List Str := ps.map fun p => S (pcOf p)
noncomputable def runsOf (ps : List Nat) : List Str := Txt.split (S (leadE ps)) "\t"
noncomputable def oddTexts (ps : List Nat) : List Str := (runsOf ps).dropLast.reverse ++ (runsOf ps).drop ((runsOf ps).length - 1)
noncomputable def leadO (ps : List Nat) : List Nat := (Txt.join "\t" (oddTexts ps)).cps.toList
noncomputable def leadOf (odd : Bool) (ps : List Nat) : List Nat := if odd then leadO ps else leadE ps
noncomputable def psUpTo : Nat → List (List Nat)
  | 0 => [[]]
  | n + 1 => [] :: (List.range 4).flatMap fun i => (psUpTo n).map (i :: ·)
theorem mem_psUpTo : ∀ (n : Nat) (ps : List Nat), ps.length ≤ n → (∀ p ∈ ps, p < 4) → ps ∈ psUpTo n
  | 0, [], _, _ => by simp [psUpTo]
  | 0, _ :: _, h, _ => by simp at h
  | n + 1, [], _, _ => by simp [psUpTo]
  | n + 1, p :: r, h, hp => by
    refine List.mem_cons_of_mem _ (List.mem_flatMap.mpr ⟨p, by simpa using hp p List.mem_cons_self, List.mem_map.mpr ⟨r, mem_psUpTo n r (by simpa using h) fun q hq => hp q (List.mem_cons_of_mem _ hq), rfl⟩⟩)
noncomputable def spTab (l : List Nat) : Bool := l.all fun c => c == 32 || c == 9
noncomputable def wOf (ps : List Nat) : Ws := wsOf (leadE ps)
noncomputable def chkLead (ps : List Nat) : Bool :=
  JoinOk "" (pcTexts ps) && Txt.join "" (pcTexts ps) == S (leadE ps) && decide ((leadE ps).length ≤ 9) &&
  decide ((Builtin.Str.partsBetween (S (leadE ps)) (Builtin.Str.occurrences (S (leadE ps)) "\t" 0 (S (leadE ps)).length ((S (leadE ps)).length + 1)) ("\t" : Str).length).length ≤ 100) &&
  decide ((runsOf ps).length ≤ 100) && JoinOk "\t" (oddTexts ps) && Txt.join "\t" (oddTexts ps) == S (leadO ps) && decide ((leadO ps).length ≤ 9) &&
  spTab (leadE ps) && spTab (leadO ps) && decide (wsOf (leadO ps) = wOf ps) && decide ((wOf ps).n = (leadE ps).length) && decide ((leadO ps).length = (leadE ps).length)
theorem chkLead_all : (psUpTo 3).all chkLead = true := by decide +kernel
theorem chkLead_of {ps : List Nat} (h : ps.length ≤ 3) (hp : ∀ p ∈ ps, p < 4) : chkLead ps = true := List.all_eq_true.mp chkLead_all ps (mem_psUpTo 3 ps h hp)
structure Lead (ps : List Nat) : Prop where
  jok : JoinOk "" (pcTexts ps) = true
  jeq : Txt.join "" (pcTexts ps) = S (leadE ps)
  len : (leadE ps).length ≤ 9
  parts : (Builtin.Str.partsBetween (S (leadE ps)) (Builtin.Str.occurrences (S (leadE ps)) "\t" 0 (S (leadE ps)).length ((S (leadE ps)).length + 1)) ("\t" : Str).length).length ≤ 100
  runs : (runsOf ps).length ≤ 100
  ook : JoinOk "\t" (oddTexts ps) = true
  oeq : Txt.join "\t" (oddTexts ps) = S (leadO ps)
  olen : (leadO ps).length ≤ 9
  sp : ∀ b, spTab (leadOf b ps) = true
  ws : ∀ b, wsOf (leadOf b ps) = wOf ps
  n : (wOf ps).n = (leadE ps).length
  same : (leadO ps).length = (leadE ps).length
theorem lead_of {ps : List Nat} (h : ps.length ≤ 3) (hp : ∀ p ∈ ps, p < 4) : Lead ps := by
  have := chkLead_of h hp
  simp only [chkLead, Bool.and_eq_true, decide_eq_true_eq, beq_iff_eq] at this
  obtain ⟨⟨⟨⟨⟨⟨⟨⟨⟨⟨⟨⟨a, b⟩, c⟩, d⟩, e⟩, f⟩, g⟩, i⟩, j⟩, k⟩, l⟩, m⟩, n⟩ := this
  exact ⟨a, b, c, d, e, f, g, i, fun b => by cases b <;> assumption, fun b => by cases b <;> first | assumption | rfl, m, n⟩

/-! ## the order of the leads -/
noncomputable def chkStep (ps : List Nat) : Bool := (List.range 4).all fun p => lessW (wOf ps) (wOf (ps ++ [p]))
theorem chkStep_all : (psUpTo 2).all chkStep = true := by decide +kernel
theorem less_step {ps : List Nat} {p : Nat} (h : ps.length ≤ 2) (hp : ∀ p ∈ ps, p < 4) (h4 : p < 4) : lessW (wOf ps) (wOf (ps ++ [p])) = true :=
  List.all_eq_true.mp (List.all_eq_true.mp chkStep_all ps (mem_psUpTo 2 ps h hp)) p (by simpa using h4)
noncomputable def chkBack (ps : List Nat) : Bool := ps.isEmpty || (!eqN (wOf ps) (wOf ps.dropLast) && !lessW (wOf ps) (wOf ps.dropLast))
theorem chkBack_all : (psUpTo 3).all chkBack = true := by decide +kernel
theorem back_step {ps : List Nat} (h : ps.length ≤ 3) (hp : ∀ p ∈ ps, p < 4) (hne : ps ≠ []) : eqN (wOf ps) (wOf ps.dropLast) = false ∧ lessW (wOf ps) (wOf ps.dropLast) = false := by
  have := List.all_eq_true.mp chkBack_all ps (mem_psUpTo 3 ps h hp)
  unfold chkBack at this
  cases ps with
  | nil => exact absurd rfl hne
  | cons a r => simpa using this
theorem eqN_self (x : Ws) : eqN x x = true := by simp [eqN]
theorem less_self (x : Ws) : lessW x x = false := by simp [lessW]
noncomputable def chkB (ps : List Nat) : Bool := decide ((wOf ps).count.length ≤ 100) && decide ((wOf ps).b ≤ 100)
theorem chkB_all : (psUpTo 3).all chkB = true := by decide +kernel
theorem wOf_small {ps : List Nat} (h : ps.length ≤ 3) (hp : ∀ p ∈ ps, p < 4) : (wOf ps).count.length ≤ 500000 ∧ (wOf ps).b ≤ 500000 := by
  have := List.all_eq_true.mp chkB_all ps (mem_psUpTo 3 ps h hp)
  simp only [chkB, Bool.and_eq_true, decide_eq_true_eq] at this
  omega
theorem wOf_nil : wOf [] = wsOf [] := rfl
/-- what follows the spaces is not looked at -/
theorem wsGo_app : ∀ (l r : List Nat) (s : Ws), spTab l = true → (∀ c, r.head? = some c → c ≠ 32 ∧ c ≠ 9) → wsGo s (l ++ r) = wsGo s l
  | [], [], s, _, _ => rfl
  | [], c :: r, s, _, h => by
    have := h c rfl
    simp only [List.nil_append, wsGo, if_neg this.1, if_neg this.2]
  | c :: l, r, s, hl, h => by
    simp only [spTab, List.all_cons, Bool.and_eq_true, Bool.or_eq_true, beq_iff_eq] at hl
    have ih := fun s => wsGo_app l r s hl.2 h
    simp only [List.cons_append, wsGo, ih]
end Mine

namespace Mine
open PySem PySem.W PyProof.Rows PySem.SeqAt

noncomputable def psOf (ls : List Ln) (b : List Nat) : List Nat := b.map fun k => ix4 (lnAt ls k).c
theorem psOf_lt (ls : List Ln) (b : List Nat) : ∀ p ∈ psOf ls b, p < 4 := fun p hp => by
  obtain ⟨k, _, rfl⟩ := List.mem_map.mp hp
  exact (ix4_lt _).1
theorem psOf_len (ls : List Ln) (b : List Nat) : (psOf ls b).length = b.length := by simp [psOf]
noncomputable def odd (k : Nat) : Bool := k % 2 == 1
noncomputable def lineOf (ls : List Ln) (k : Nat) : List Nat := leadOf (odd k) (psOf ls (lnAt ls k).bl) ++ esc (txt (lnAt ls k).c (lnAt ls k).f)
noncomputable abbrev pcsDt : List Dt := [.str " ", .str "\t", .str "  \t", .str " \t "]
theorem pc_ix (c : Int) : seqIndex? ((c.fdiv 3).fmod 4) 4 = some (ix4 c) ∧ pcsDt[ix4 c]? = some (.str (S (pcOf (ix4 c)))) := by
  obtain ⟨h, e⟩ := ix4_lt c
  rw [e]
  have : ∀ k : Fin 4, seqIndex? ((k.val : Nat) : Int) 4 = some k.val ∧ pcsDt[k.val]? = some (.str (S (pcOf k.val))) := fun k => by
    match k with
    | 0 | 1 | 2 | 3 => exact ⟨rfl, rfl⟩
  exact this ⟨ix4 c, h⟩
theorem cut_last (l : List Dt) : cut l (some (-1)) none = l.drop (l.length - 1) := by
  unfold cut
  have e : clipAt l.length (-1) = l.length - 1 := by
    unfold clipAt; split <;> omega
  simp only [Option.elim, e]
  rw [List.take_of_length_le (by simp)]
theorem clean_txt (c : Int) : ∀ f : Fm, Clean (txt c f)
  | .v i => by
    have h1 : ∀ k : Fin 5, ∀ i : Fin 3, Clean [firstL.getD k.val 0 + i.val] := by unfold Clean; decide
    have h2 : ∀ k : Fin 6, Clean (unseenL.getD k.val []) := by unfold Clean; decide
    intro n hn
    simp only [txt, List.mem_cons] at hn
    rcases hn with rfl | hn
    · exact h1 ⟨ix5 c, (ix5_lt c).1⟩ i _ (by simp [fstOf])
    · exact h2 ⟨ix6 c, (ix6_lt c).1⟩ _ hn
  | .bin amp a b => by
    have ha := clean_txt c a
    have hb := clean_txt c b
    intro n hn
    simp only [txt, List.mem_append, List.mem_cons, List.not_mem_nil, or_false] at hn
    rcases hn with (((rfl | hn) | rfl) | hn) | rfl
    · decide
    · exact ha n hn
    · cases amp <;> decide
    · exact hb n hn
    · decide
theorem esc_len (l : List Nat) : (esc l).length ≤ l.length * 30 := by
  have h1 := subst1_len 38 ampL l
  have h2 := subst1_len 62 gtL (subst1 38 ampL l)
  have e1 : ampL.length = 5 := rfl
  have e2 : gtL.length = 4 := rfl
  unfold esc
  rw [e1] at h1; rw [e2] at h2
  omega
section
variable {w : World} {A : Around} {X : List Addr}
noncomputable def unK (ls : List Ln) : Dt → Dt
  | .int i => .str (S (pcOf (ix4 (lnAt ls i.toNat).c)))
  | _ => .none
set_option maxHeartbeats 4000000 in
theorem op_line (ls : List Ln) (k : Nat) (hk6 : k < ls.length) (h6 : ls.length ≤ 6) (hlt : ∀ l ∈ ls, ∀ j ∈ l.bl, j < ls.length) (hthree : ∀ l ∈ ls, l.bl.length ≤ 3) (hdep : ∀ l ∈ ls, l.f.dep ≤ 6) (r : Room 12 A) :
    OpC w A X (.ref 222) [.int (k : Nat), .lst (lnsDt ls)] (.str (S (lineOf ls k))) := .mk fun s vs tk wd x i => by
  obtain ⟨v, v', rfl, iv, iv'⟩ := i.two
  refine call_fn (names := ["place", "lines"]) (fn222 _) r tk wd x i rfl rfl (by rfl) (by decide) fun e s₁ he r' hown F => ?_
  have fe : Fe (fScope (top 21)).names e := by subst he; exact Fe.of (fn222 _)
  clear he
  have hk := fe.hk
  have z : sizeLine = 16777216 := rfl
  have hll := lnsDt_len ls
  generalize hL : lnAt ls k = L
  have hLm : L ∈ ls := hL ▸ lnAt_mem hk6
  have hbl := hthree L hLm
  have hbj := hlt L hLm
  have hd := hdep L hLm
  have ld := lead_of (ps := psOf ls L.bl) (by rw [psOf_len]; exact hbl) (psOf_lt ls L.bl)
  refine execs_cons' (F.assignTup (ds := [.lst (natsDt L.bl), L.f.dt, .int L.c]) (Ev.sub (d₁ := .lst (lnsDt ls)) (Op2.idxL (by rw [hll]; exact seqIndex_nat hk6) (by rw [← hL]; exact lnsDt_at hk6) (by rw [hll]; omega)) (Ev.var hk) (Ev.var hk)) r'.hd hk (fe.st (by rfl)) rfl fun s₂ F => ?_)
  have F := F.norm [("place", .int (k : Nat)), ("lines", .lst (lnsDt ls)), ("blocks", .lst (natsDt L.bl)), ("formula", L.f.dt), ("choice", .int L.c)] ⟨rfl, rfl, rfl, rfl, rfl, trivial⟩
  refine execs_cons' (F.assign (d := .str (S (leadE (psOf ls L.bl)))) (Ev.eq (Ev.methN strT PySem.F.plainAttrs_str PySem.F.slot_str_join PySem.F.type_str_join Ev.str
      (EvAll.cons (Ev.comp1 [("lines", .lst (lnsDt ls))] (unK ls) (l := (pcTexts (psOf ls L.bl)).map .str) fe (by rfl) (EvIt.lst r'.hd (Ev.var hk)) (by rw [natsDt_len, z]; omega) ⟨rfl, trivial⟩ (fun e' X' g' hX d hd => ?_) ?_) EvAll.nil)
      (OpC.join ld.jok)) (by rw [ld.jeq])) hk (fe.loc (.inl rfl)) fun s₃ F => ?_)
  · obtain ⟨j, hj, rfl⟩ := List.mem_map.mp hd
    have hj' := hbj j hj
    have hx : ∀ l : Ln, seqIndex? 2 [Dt.lst (natsDt l.bl), l.f.dt, .int l.c].length = some 2 ∧ [Dt.lst (natsDt l.bl), l.f.dt, .int l.c][2]? = some (.int l.c) := fun l => ⟨rfl, rfl⟩
    show Ev w _ e' X' [] _ _ (.str (S (pcOf (ix4 (lnAt ls j).c))))
    exact Ev.sub (d₁ := .lst pcsDt) (Op2.idxL (pc_ix _).1 (pc_ix _).2 (by simp)) (Ev.lst (EvAll.cons Ev.str (EvAll.cons Ev.str (EvAll.cons Ev.str (EvAll.cons Ev.str EvAll.nil)))) (by simp; decide))
      (Ev.bin (Op2.mod (by decide)) (Ev.bin (Op2.div (by decide) (by decide)) (Ev.sub (d₁ := (lnAt ls j).dt) (Op2.idxT (hx _).1 (hx _).2 (by simp)) (Ev.sub (d₁ := .lst (lnsDt ls)) (Op2.idxL (by rw [hll]; exact seqIndex_nat hj') (lnsDt_at hj') (by rw [hll]; omega)) (Ev.var g'.1.k) (Ev.var g'.1.k)) Ev.int) Ev.int) Ev.int)
  · simp only [natsDt, pcTexts, psOf, List.map_map]
    apply List.map_congr_left
    intro j hj
    simp [unK]
  · have hrl := ld.runs
    refine execs_cons' (F.assign (d := .lst ((runsOf (psOf ls L.bl)).map .str)) (Ev.methN strT PySem.F.plainAttrs_str PySem.F.slot_str_split PySem.F.type_str_split (Ev.var hk) (EvAll.cons Ev.str EvAll.nil) (OpC.split (x := S (leadE (psOf ls L.bl))) (y := "\t") rfl (by have := ld.len; rw [z]; simp [Str.length]; omega) (by have := ld.parts; rw [z]; omega))) hk (fe.loc (.inl rfl)) fun s₄ F => ?_)
    have hodd : ((k : Int).fmod 2 != 0) = odd k := by
      unfold odd
      rw [Int.fmod_eq_emod_of_nonneg _ (by decide)]
      rw [Bool.eq_iff_iff]; simp; omega
    refine execs_join (P := fun s' => Fn w s (ownOf e []) e (outOf e X) [] [("lead", .str (S (leadOf (odd k) (psOf ls L.bl)))), ("formula", L.f.dt), ("choice", .int L.c)] s') ?_ fun s₅ F => ?_
    · refine F.if_ (EvT.of (Ev.bin (Op2.mod (i := (k : Int)) (j := 2) (by decide)) (Ev.var hk) Ev.int) OpT.int) (fun ho s₅ F => ?_) fun ho s₅ F => ?_
      · rw [hodd] at ho
        have hml : ((runsOf (psOf ls L.bl)).map Dt.str).length = (runsOf (psOf ls L.bl)).length := by simp
        refine execs_cons' (F.assign (d := .str (S (leadO (psOf ls L.bl)))) (Ev.eq (Ev.methN strT PySem.F.plainAttrs_str PySem.F.slot_str_join PySem.F.type_str_join Ev.str
          (EvAll.cons (Ev.eq (Ev.bin (Op2.addL (ds := (runsOf (psOf ls L.bl)).dropLast.reverse.map Dt.str) (es := ((runsOf (psOf ls L.bl)).drop ((runsOf (psOf ls L.bl)).length - 1)).map Dt.str) ?_)
            (Ev.eq (Ev.rev (ds := (runsOf (psOf ls L.bl)).dropLast.map Dt.str) (Ev.eq (Ev.slice (d₁ := .lst ((runsOf (psOf ls L.bl)).map .str)) (hi := some (-1)) (OpS.lst (by rw [hml, z]; omega)) (Ev.var hk) EvP.none (EvP.some (Ev.neg Ev.int))) (by rw [cut_dropLast, List.map_dropLast])) (Ev.neg Ev.int) ?_) (by rw [List.map_reverse]))
            (Ev.eq (Ev.slice (d₁ := .lst ((runsOf (psOf ls L.bl)).map .str)) (lo := some (-1)) (OpS.lst (by rw [hml, z]; omega)) (Ev.var hk) (EvP.some (Ev.neg Ev.int)) EvP.none) (by rw [cut_last, hml, List.map_drop]))) (by rw [← List.map_append]; rfl)) EvAll.nil)
          (OpC.join (texts := oddTexts (psOf ls L.bl)) ld.ook)) (by rw [ld.oeq])) hk (fe.loc (.inl rfl)) fun s₆ F => ?_)
        · rw [z]; simp; omega
        · rw [z]; simp; omega
        · refine execs_nil' ⟨rfl, ?_⟩
          have e1 : leadOf (odd k) (psOf ls L.bl) = leadO (psOf ls L.bl) := by unfold leadOf; rw [ho]; rfl
          rw [e1]
          exact F.norm _ ⟨rfl, rfl, rfl, trivial⟩
      · rw [hodd] at ho
        refine execs_nil' ⟨rfl, ?_⟩
        have e1 : leadOf (odd k) (psOf ls L.bl) = leadE (psOf ls L.bl) := by unfold leadOf; rw [ho]; rfl
        rw [e1]
        exact F.norm _ ⟨rfl, rfl, rfl, trivial⟩
    · have ht := txt_len L.c L.f
      have h2 : 2 ^ L.f.dep ≤ 2 ^ 6 := Nat.pow_le_pow_right (by decide) hd
      have hel := esc_len (txt L.c L.f)
      have hll2 : (leadOf (odd k) (psOf ls L.bl)).length ≤ 9 := by unfold leadOf; split; exact ld.olen; exact ld.len
      refine execs_cons' (F.ret (d := .str (S (lineOf ls k))) (Ev.eq (Ev.bin (Op2.cat (x := S (leadOf (odd k) (psOf ls L.bl))) (y := S (esc (txt L.c L.f))) ?_) (Ev.var hk)
        (Ev.call fe.g (fe.kd _ _ rfl) (gl_law_escaped _) (.fn (fn217 _)) (EvAll.cons (Ev.call fe.g (fe.kd _ _ rfl) (gl_law_text _) (.fn (fn210 _)) (EvAll.cons (Ev.var hk) (EvAll.cons (Ev.var hk) EvAll.nil)) (op_text L.c L.f (by omega) (r'.less)))
          (EvAll.cons (Ev.bin (Op2.mod (by decide)) (Ev.var hk) Ev.int) EvAll.nil)) (op_escaped (by omega) (clean_txt L.c L.f) (r'.less)))) ?_) fun v s₆ F iv => ⟨F.kept hown, iv.less fun a ha => List.mem_cons_of_mem _ (List.mem_append_right _ ha)⟩)
      · rw [z]; simp [Str.length]; omega
      · rw [S_append]; unfold lineOf; rw [hL]
end
end Mine

namespace Mine
open PySem PySem.W PyProof.Rows PySem.SeqAt

section
variable {w : World} {A : Around} {s₀ : Shared} {Mu : List Addr} {en : List (Str × NameKind)} {e : Env} {X : List Addr} {Ow : Owns} {Γ : List (Str × Dt)} {s : Shared}

/-- next(it), it over a list -/
theorem call_next_list {it l : Addr} {i : Nat} {items : Array Value} {x : Value} {Q : Value → Shared → Prop} {E : Value → Shared → Prop} (hit : s.heap.IsListIter it l i) (hl : s.heap.IsList l items) (hx : items[i]? = some x)
    (hQ : ∀ h', h'.IsListIter it l (i + 1) → Heap.SameBut it s.heap h' → Q x { s with heap := h' }) : wpAny (model pw w) A (PySem.call (.builtin "next") [.ref it]) Q E s := by
  obtain ⟨o, ho, hc, hd⟩ := id hit
  obtain ⟨ol, hol, _, nl, hdl⟩ := hl
  refine Calls.call_function_entry (by decide +kernel) (by decide +kernel) kdk_entry_next (kdk_args_next _) ?_
  unfold Builtin.«next»
  refine wpAny_bind (m := someArgs "next" 1 2 _) (wpAny_of_eq (a := [Value.ref it]) (by first | rfl | kernel_rfl!) ?_)
  dsimp only
  refine wpAny_bind (wpAny_specialOf (name := Str.ofString "__next__") hit.typeIs slot_listiter_next.lookup ?_)
  refine wpAny_ite_split (fun hab => absurd hab (by decide)) (fun _ => ?_)
  refine wpAny_bind (wpAny_callSpecial?_slot (name := Str.ofString "__next__") hit.typeIs slot_listiter_next
    (wpAny_call_entry slot_listiter_next hit.typeIs entry_listiter_next ?_ (args_listiter_next _)))
  show wpAny _ _ (field (.ref it) 0 >>= _) _ _ s
  refine wpAny_bind (wpAny_field ho hd (x := .ref l) rfl ?_)
  show wpAny _ _ (if (Value.ref l == Value.none) = true then _ else _) _ _ s
  rw [if_neg (show ¬ ((Value.ref l == Value.none) = true) from Bool.false_ne_true)]
  show wpAny _ _ (field (.ref it) 1 >>= _) _ _ s
  refine wpAny_bind (wpAny_field ho hd (x := .int i 0) rfl ?_)
  show wpAny _ _ (seqItems? (.ref l) >>= _) _ _ s
  refine wpAny_bind (wpAny_seqItems hol hdl ?_)
  simp only [Int.toNat_natCast, hx]
  refine wpAny_bind (wpAny_setField ho hd (by simp) (wpAny_pure ⟨x, rfl, wpAny_pure ⟨_, rfl, hQ _ ?_ (Heap.SameBut.update ..)⟩⟩))
  exact ⟨_, Heap.get?_update_self _ ho (Obj.isFreed_of_fields (Obj.data_mapFields hd _)), (Obj.cls_mapFields ..).trans hc, by
    rw [Obj.data_mapFields hd]; simp [rawInt]⟩
/-- iter(l) -/
theorem call_iter_list {l : Addr} {items : Array Value} {Q : Value → Shared → Prop} {E : Value → Shared → Prop} (hl : s.heap.IsList l items)
    (hQ : Q (.ref s.heap.objs.size) { s with heap := s.heap.push { cls := .type "list_iterator", data := .fields #[.ref l, .int 0 0] } }) : wpAny (model pw w) A (PySem.call (.builtin "iter") [.ref l]) Q E s := by
  refine Calls.call_function_entry (by decide +kernel) (by decide +kernel) kdk_entry_iter (kdk_args_iter _) ?_
  unfold Builtin.«iter»
  refine wpAny_bind (m := someArgs "iter" 1 2 _) (wpAny_of_eq (a := [Value.ref l]) (by first | rfl | kernel_rfl!) ?_)
  show wpAny _ _ (pyIter (.ref l) >>= _) _ _ _
  exact wpAny_bind (wpAny_pyIter_list hl (wpAny_pure ⟨_, rfl, hQ⟩))

/-! ## an iterator that moves -/
structure At (I L : Addr) (codes : List Nat) (i : Nat) (h : Heap) : Prop where
  it : h.IsListIter I L i
  ls : ∃ vs : List Value, h.PlainList L vs.toArray ∧ ∀ (j c : Nat), codes[j]? = some c → ∃ t : Tok, vs[j]? = some (Value.str (S [c]) t)
  ne : L ≠ I
theorem At.keep {I L : Addr} {codes : List Nat} {i : Nat} {h h' : Heap} (a : At I L codes i h) (k : ∀ b o, (b = I ∨ b = L) → h.get? b = some o → h'.get? b = some o) : At I L codes i h' := by
  obtain ⟨⟨o, ho, r⟩, ⟨vs, ⟨n, hl⟩, hc⟩, hne⟩ := a
  exact ⟨⟨o, k _ o (.inl rfl) ho, r⟩, ⟨vs, ⟨n, k _ _ (.inr rfl) hl⟩, hc⟩, hne⟩
/-- the frame beside the iterator -/
structure FM (w : World) (s₀ : Shared) (Mu : List Addr) (e : Env) (X : List Addr) (Γ : List (Str × Dt)) (I L : Addr) (codes : List Nat) (i : Nat) (s : Shared) : Prop extends Fn w s₀ Mu e X [] Γ s where
  at_ : At I L codes i s.heap
  iX : I ∈ X
  iMu : I ∈ Mu
  iK : (KK w.params).lookup I = none
theorem FM.kp {I L : Addr} {codes : List Nat} {i : Nat} {s' : Shared} (F : FM w s₀ Mu e X Γ I L codes i s) (k : Kp s s') : FM w s₀ Mu e X Γ I L codes i s' :=
  ⟨F.toFn.kp k, F.at_.keep fun b o _ h => k.ext b o h, F.iX, F.iMu, F.iK⟩
theorem FM.apart {I L : Addr} {codes : List Nat} {i : Nat} (F : FM w s₀ Mu e X Γ I L codes i s) : (I ≠ e.locals ∧ ∀ p ∈ e.cells, I ≠ p.2) ∧ (L ≠ e.locals ∧ ∀ p ∈ e.cells, L ≠ p.2) := by
  obtain ⟨o, ho, hc, hd⟩ := F.at_.it
  obtain ⟨vs, ⟨n, hl⟩, _⟩ := F.at_.ls
  refine ⟨⟨fun q => ?_, fun p hp q => ?_⟩, ⟨fun q => ?_, fun p hp q => ?_⟩⟩
  · obtain ⟨m, o', es, ep, ho', hd', _⟩ := F.ns
    rw [← q, ho] at ho'; cases ho'; rw [hd] at hd'; cases hd'
  · obtain ⟨cv, o', ho', hd'⟩ := F.cl p hp
    rw [← q, ho] at ho'; cases ho'; rw [hd] at hd'; cases hd'
  · obtain ⟨m, o', es, ep, ho', hd', _⟩ := F.ns
    rw [← q, hl] at ho'; cases ho'; cases hd'
  · obtain ⟨cv, o', ho', hd'⟩ := F.cl p hp
    rw [← q, hl] at ho'; cases ho'; cases hd'
/-- the iterator has moved -/
theorem FM.moved {I L : Addr} {codes : List Nat} {i j : Nat} {s' : Shared} (F : FM w s₀ Mu e X Γ I L codes i s) (k : Kw [I] s s') (h : At I L codes j s'.heap) : FM w s₀ Mu e X Γ I L codes j s' := by
  obtain ⟨tk, ⟨h', t', rfl⟩, kk⟩ := k
  obtain ⟨⟨a1, a2⟩, _⟩ := F.apart
  refine ⟨F.toFn.beside F.iX (.inl F.iMu) F.iK a1 a2 (fun p hp => (nomatch hp)) (fun b o hb ho => kk b o (by simpa using hb) ho) (let ⟨o, ho, _⟩ := h.it; ⟨o, ho⟩) tk, h, F.iX, F.iMu, F.iK⟩
structure EvM (w : World) (A : Around) (e : Env) (X : List Addr) (Γ : List (Str × Dt)) (I L : Addr) (codes : List Nat) (i j : Nat) (ex : Expr) (d : Dt) : Prop where
  h : ∀ s₀ Mu s, FM w s₀ Mu e X Γ I L codes i s → wpAny (model pw w) A (eval ex e) (fun v s' => FM w s₀ Mu e X Γ I L codes j s' ∧ Is s'.heap X d v) Bot s
theorem FM.store {I L : Addr} {codes : List Nat} {i : Nat} {x : Str} {d : Dt} {v : Value} {Q : Unit → Shared → Prop} {E : Value → Shared → Prop} (F : FM w s₀ Mu e X Γ I L codes i s) (hk : e.scope.kind = .function) (hi : Is s.heap X d v)
    (hx : e.kindOf x = some .local) (h : ∀ s', FM w s₀ Mu e X (upd Γ x d) I L codes i s' → Q () s') (hcd : (x == ("__classdict__" : Str)) = false := by rfl) : wpAny (model pw w) A (storeName e x v) Q E s :=
  F.toFs.store hk hi (.inl hx) hcd fun s' G kb => h s' ⟨F.toFn.ofKb G kb, F.at_.keep fun b o hb ho => by
    obtain ⟨⟨a1, a2⟩, ⟨a3, a4⟩⟩ := F.apart
    rcases hb with rfl | rfl
    · exact kb.keep _ o a1 a2 ho
    · exact kb.keep _ o a3 a4 ho, F.iX, F.iMu, F.iK⟩
theorem FM.assign {I L : Addr} {codes : List Nat} {i j : Nat} {x : Str} {d : Dt} {ex : Expr} {px pos : Pos} {Q : Flow → Shared → Prop} {E : Value → Shared → Prop} (F : FM w s₀ Mu e X Γ I L codes i s) (he : EvM w A e X Γ I L codes i j ex d) (hk : e.scope.kind = .function)
    (hx : e.kindOf x = some .local) (h : ∀ s', FM w s₀ Mu e X (upd Γ x d) I L codes j s' → Q .next s') (hcd : (x == ("__classdict__" : Str)) = false := by rfl)
    (hs : swapsWith ex (some (.Name x px)) pos.line e = pure false := by rfl) : Wp w A (exec (.Assign [.Name x px] ex pos) e) Q E s := .mk <|
  wpAny_Assign_Name (wpb (he.h _ _ _ F) fun v s₁ ⟨F₁, i₁⟩ => F₁.store hk i₁ hx h hcd) hs
theorem FM.norm {I L : Addr} {codes : List Nat} {i : Nat} (Γ' : List (Str × Dt)) (F : FM w s₀ Mu e X Γ I L codes i s) (h : AllHas Γ' Γ) : FM w s₀ Mu e X Γ' I L codes i s := ⟨F.toFn.norm Γ' h, F.at_, F.iX, F.iMu, F.iK⟩
theorem FM.if_ {I L : Addr} {codes : List Nat} {i : Nat} {t : Expr} {body orelse : List Stmt} {pos : Pos} {b : Bool} {Q : Flow → Shared → Prop} {E : Value → Shared → Prop} (F : FM w s₀ Mu e X Γ I L codes i s) (ht : EvT w A e X [] Γ t b)
    (h1 : b = true → ∀ s', FM w s₀ Mu e X Γ I L codes i s' → Wp w A (execs body e) Q E s') (h2 : b = false → ∀ s', FM w s₀ Mu e X Γ I L codes i s' → Wp w A (execs orelse e) Q E s') :
    Wp w A (exec (.If t body orelse pos) e) Q E s := .mk <|
  wpAny_If (wpb (ht.h s F.toCx) fun c s₁ ⟨k₁, hc⟩ => by
    subst hc
    cases c with
    | true => exact (h1 rfl _ (F.kp k₁)).p
    | false => exact (h2 rfl _ (F.kp k₁)).p)
/-- next(signs) -/
theorem EvM.next {I L : Addr} {codes : List Nat} {i c : Nat} {x : Str} {p px pos : Pos} (g : GEnv e) (hk : e.kindOf "next" = some .globalImplicit) (hx : Γ.lookup x = some (.own I)) (hc : codes[i]? = some c)
    (hd : (x == ("__debug__" : Str)) = false := by rfl)
    (he : starEach [Expr.Name x px] e = (false, eval (.Name x px) e) :: starEach [] e := by rfl) : EvM w A e X Γ I L codes i (i + 1) (.Call (.Name "next" p) [.Name x px] [] pos) (.str (S [c])) := .mk fun s₀ Mu s F => by
  refine wpAny_Call_NameR ((gl_next w.params).load g hk F.wd ?_ rfl)
  refine callWith_fv (x := _) (r := _) (.blt _) F.wd (by rw [he]; rfl) (by rw [he]; rfl) (wpb ((EvAll.cons (Ev.name g.k (mem_of_look hx) hd) EvAll.nil he).h s F.toCx) fun vs s₁ ⟨k₁, i₁⟩ => ?_)
  have F₁ := F.kp k₁
  refine ⟨F₁.wd, ?_⟩
  obtain ⟨v, rfl, iv⟩ := i₁.one
  simp only [Is] at iv
  subst iv
  obtain ⟨vs, hl, hcs⟩ := F₁.at_.ls
  obtain ⟨t, ht⟩ := hcs i c hc
  refine call_next_list F₁.at_.it hl.isList (x := .str (S [c]) t) (by simpa using ht) fun h' hit' hs' => ?_
  refine ⟨F₁.moved (s' := { s₁ with heap := h' }) ⟨Nat.le_refl _, ⟨h', s₁.toks, rfl⟩, fun b o hb ho => SameBut.back hs' (by simpa using hb) ho⟩ ⟨hit', ?_, F₁.at_.ne⟩, by simp only [Is]; exact ⟨t, rfl⟩⟩
  exact ⟨vs, hl.at fun o ho => SameBut.back hs' F₁.at_.ne ho, hcs⟩
end
end Mine

namespace Mine
open PySem PySem.W

/-! ## what is read back -/
noncomputable def conC (amp : Bool) : Nat := if amp then 43 else 45
noncomputable def canon : Fm → List Nat
  | .v j => [112 + j.val]
  | .bin amp a b => [40] ++ canon a ++ [conC amp] ++ canon b ++ [41]
noncomputable def atomM (j : Fin 3) : Int := [170, 204, 240].getD j.val 0
noncomputable def maskI : Fm → Int
  | .v j => atomM j
  | .bin true a b => Builtin.bitAnd (maskI a) (maskI b)
  | .bin false a b => Builtin.bitOr (255 - maskI a) (maskI b)
end Mine

namespace Mine
open PySem PySem.W PyProof.Rows PySem.SeqAt

section
variable {w : World} {A : Around} {s₀ : Shared} {Mu : List Addr} {en : List (Str × NameKind)} {e : Env} {X : List Addr} {Ow : Owns} {Γ : List (Str × Dt)} {s : Shared}
theorem Op2.neS {x y : Str} : Op2 w A X (compareOp .NotEq) (.str x) (.str y) (.bool (!(x == y))) := .mk fun s a b _ _ _ h₁ h₂ => by
  simp only [Is] at h₁ h₂; obtain ⟨t, rfl⟩ := h₁; obtain ⟨u, rfl⟩ := h₂
  exact PyProof.Rows.ne_str ⟨Kp.refl _, by simp only [Is]; rfl⟩
theorem FM.ret {I L : Addr} {codes : List Nat} {i : Nat} {d : Dt} {ex : Expr} {pos : Pos} {Q : Flow → Shared → Prop} {E : Value → Shared → Prop} (F : FM w s₀ Mu e X Γ I L codes i s) (he : Ev w A e X [] Γ ex d)
    (h : ∀ v s', FM w s₀ Mu e X Γ I L codes i s' → Is s'.heap X d v → Q (.ret v) s') : Wp w A (exec (.Return (some ex) pos) e) Q E s := .mk <|
  wpAny_Return_some (he.use F.toCx fun v s₁ k₁ c₁ i₁ => h v s₁ (F.kp k₁) i₁)
/-- an expression that moves the iterator, its value dropped -/
theorem FM.expr {I L : Addr} {codes : List Nat} {i j : Nat} {d : Dt} {ex : Expr} {pos : Pos} {Q : Flow → Shared → Prop} {E : Value → Shared → Prop} (F : FM w s₀ Mu e X Γ I L codes i s) (f : Fe en e) (he : EvM w A e X Γ I L codes i j ex d)
    (h : ∀ s', FM w s₀ Mu e X Γ I L codes j s' → Q .next s') (hsw : swapsWith ex Option.none pos.line e = pure false := by rfl) : Wp w A (exec (.Expr ex pos) e) Q E s := by
  refine .mk ?_
  rw [exec_Expr (hi := f.inter) (hs := hsw)]
  refine wpAny_bind (wpAny_standAt (wpAny_bind (wpb (he.h _ _ _ F) fun v s₁ ⟨F₁, i₁⟩ => ?_)))
  exact wpAny_dropValue (h _ F₁)
/-- 'x'.index(arg), arg moving the iterator -/
theorem EvM.index {I L : Addr} {codes : List Nat} {i j n : Nat} {x y : Str} {r : List Nat} {o arg : Expr} {apos pos : Pos} (ho : Ev w A e X [] Γ o (.str x)) (ha : EvM w A e X Γ I L codes i j arg (.str y)) (hocc : Builtin.Str.occurrences x y 0 x.length 1 = n :: r)
    (he : starEach [arg] e = (false, eval arg e) :: starEach [] e := by rfl)
    (hbase : attributeBase o "index" e (eval o e) = eval o e := by rfl)
    (hfew : ((backTo pos (starEach [arg] e)).all (fun x => !x.1) && (backToKw pos (keywordEach [] e)).all (fun x => x.1.isSome)
      && decide (([arg] : List Expr).length + ([] : List Keyword).length + (if ([] : List Keyword).isEmpty then 0 else 1) < 30)) = true := by rfl)
    (hline : (apos.endLine == pos.line) = true := by rfl) : EvM w A e X Γ I L codes i j (.Call (.Attribute o "index" apos) [arg] [] pos) (.int (n : Nat)) := .mk fun s₀ Mu s F => by
  refine wpAny_Call_method hbase hfew hline PySem.F.plainAttrs_str PySem.F.slot_str_index PySem.F.type_str_index (ho.use F.toCx fun v s₁ k₁ c₁ i₁ => ⟨(strT s₁ v i₁).1, (strT s₁ v i₁).2, ?_⟩)
  simp only [Is] at i₁
  obtain ⟨t, rfl⟩ := i₁
  have F₁ := F.kp k₁
  refine Calls.callWith_builtin (by rw [he]; rfl) ?_
  have h : wpAny (model pw w) A (spliced (backTo pos (starEach [arg] e))) (fun vs s' => wpAny (model pw w) A (PySem.call (.builtin "str.index") ([.str x t] ++ vs)) (fun v s' => FM w s₀ Mu e X Γ I L codes j s' ∧ Is s'.heap X (.int (n : Nat)) v) Bot s') Bot s₁ :=
    wpAny_items_cons (wpb (ha.h _ _ _ F₁) fun v s₂ ⟨F₂, i₂⟩ => wpAny_items_nil (by
      refine wpb ((OpC.index (w := w) (A := A) (X := X) hocc).h s₂ [.str x t, v] F₂.tk F₂.wd F₂.xin (by simp only [IsAll]; exact ⟨_, _, rfl, by simp only [Is]; exact ⟨t, rfl⟩, _, _, rfl, i₂, rfl⟩)) fun r s₃ ⟨k₃, i₃⟩ => ⟨F₂.kp k₃, i₃⟩)) he
  rw [he] at h ⊢
  exact Calls.evalArgs_plain h
theorem EvM.callF {I L : Addr} {codes : List Nat} {i j : Nat} {d : Dt} {f x : Str} {fa : Addr} {fd : FuncData} {body : List Stmt} {p px pos : Pos} (g : GEnv e) (hk : e.kindOf f = some .globalImplicit) (hv : GlobV w.params f (.ref fa)) (hf : FnAt w.params fa fd body) (hx : Γ.lookup x = some (.own I))
    (hcall : ∀ s, 0 < s.toks → Wd w s.heap → Xin X s → At I L codes i s.heap → wpAny (model pw w) A (PySem.call (.ref fa) [.ref I]) (fun v s' => Is s'.heap X d v ∧ Kw [I] s s' ∧ At I L codes j s'.heap) Bot s)
    (hd : (x == ("__debug__" : Str)) = false := by rfl) (hdf : (f == ("__debug__" : Str)) = false := by rfl)
    (he : starEach [Expr.Name x px] e = (false, eval (.Name x px) e) :: starEach [] e := by rfl) : EvM w A e X Γ I L codes i j (.Call (.Name f p) [.Name x px] [] pos) d := .mk fun s₀ Mu s F => by
  refine wpAny_Call_NameR (hv.load g hk F.wd ?_ hdf)
  refine callWith_fv (x := _) (r := _) (.fn hf) F.wd (by rw [he]; rfl) (by rw [he]; rfl) (wpb ((EvAll.cons (Ev.name g.k (mem_of_look hx) hd) EvAll.nil he).h s F.toCx) fun vs s₁ ⟨k₁, i₁⟩ => ?_)
  have F₁ := F.kp k₁
  refine ⟨F₁.wd, ?_⟩
  obtain ⟨v, rfl, iv⟩ := i₁.one
  simp only [Is] at iv
  subst iv
  exact wpb (hcall s₁ F₁.tk F₁.wd F₁.xin F₁.at_) fun v s₂ ⟨i₂, k₂, a₂⟩ => ⟨F₁.moved k₂ a₂, i₂⟩

theorem atom_ix (j : Fin 3) : seqIndex? ((j.val : Nat) : Int) [Dt.int 170, .int 204, .int 240].length = some j.val ∧ [Dt.int 170, .int 204, .int 240][j.val]? = some (.int (atomM j)) := by
  match j with
  | 0 | 1 | 2 => exact ⟨rfl, rfl⟩
theorem con_ix (amp : Bool) : Builtin.Str.occurrences "-+" (S [conC amp]) 0 ("-+" : Str).length 1 = [if amp then 1 else 0] := by revert amp; decide +kernel
theorem ne_open (j : Fin 3) : (!((S [112 + j.val] : Str) == ("(" : Str))) = true := by revert j; decide
set_option maxHeartbeats 2000000 in
theorem call_cases : ∀ (f : Fm) {A : Around} {X : List Addr} {s : Shared} {I L : Addr} {codes : List Nat} {i : Nat}, f.dep ≤ 16 → Room (f.dep + 2) A → 0 < s.toks → Wd w s.heap → Xin X s → I ∈ X → (KK w.params).lookup I = none → At I L codes i s.heap → (∀ k c, (canon f)[k]? = some c → codes[i + k]? = some c) →
    wpAny (model pw w) A (call (.ref 229) [.ref I]) (fun v s' => Is s'.heap X (.int (maskI f)) v ∧ Kw [I] s s' ∧ At I L codes (i + (canon f).length) s'.heap) Bot s := by
  intro f
  induction f with
  | v j =>
    intro A X s I L codes i hdep r tk wd x hIX hIK hat hcodes
    refine call_fnG (X := X) (names := ["signs"]) (ds := [.own I]) (fn229 _) r tk wd x (by simp only [IsAll]; exact ⟨_, _, rfl, by simp only [Is], rfl⟩) rfl rfl (by rfl) (by decide) fun e s₁ he r' hown F => ?_
    have fe : Fe (fScope (top 22)).names e := by subst he; exact Fe.of (fn229 _)
    clear he
    have hk := fe.hk
    have inOut : ∀ b o, s.heap.get? b = some o → b ∉ ownOf e [] := fun b o hb h => by rw [hown b h] at hb; cases hb
    have M : FM w s (I :: ownOf e []) e (outOf e X) [("signs", .own I)] I L codes i s₁ := ⟨F.moreMu fun b hb => List.mem_cons_of_mem _ hb, hat.keep fun b o _ ho => F.keep0 b o (inOut b o ho) ho, List.mem_cons_of_mem _ (List.mem_append_right _ hIX), List.mem_cons_self, hIK⟩
    have h0 := hcodes 0 (112 + j.val) rfl
    refine execs_cons' (M.assign (EvM.next fe.g (fe.kd _ _ rfl) rfl h0) hk (fe.kd _ _ rfl) fun s₂ M => ?_)
    refine execs_cons' (M.if_ (b := true) (EvT.eq (EvT.cmp (Op2.neS (x := S [112 + j.val]) (y := "(")) (Ev.var hk) Ev.str) (ne_open j)) (fun _ s₃ M => ?_) fun h => by cases h)
    have hix : seqIndex? ((j.val : Nat) : Int) [Dt.int 170, .int 204, .int 240].length = some j.val ∧ [Dt.int 170, .int 204, .int 240][j.val]? = some (.int (atomM j)) := by
      exact atom_ix j
    refine execs_cons' (M.ret (d := .int (atomM j)) (Ev.sub (d₁ := .lst [.int 170, .int 204, .int 240]) (Op2.idxL hix.1 hix.2 (by simp)) (Ev.lst (EvAll.cons Ev.int (EvAll.cons Ev.int (EvAll.cons Ev.int EvAll.nil))) (by simp; decide))
      (Ev.methN strT PySem.F.plainAttrs_str PySem.F.slot_str_index PySem.F.type_str_index Ev.str (EvAll.cons (Ev.var hk) EvAll.nil) (OpC.index (ltr_ix j)))) fun v s₄ M iv => ⟨iv.less fun a ha => List.mem_cons_of_mem _ (List.mem_append_right _ ha), ⟨M.tk0, M.same, fun b o hb ho => M.keep0 b o (fun hm => ?_) ho⟩, M.at_⟩)
    rcases List.mem_cons.mp hm with q | hm
    · exact hb (by simp [q])
    · exact inOut b o ho hm
  | bin amp a b iha ihb =>
    intro A X s I L codes i hdep r tk wd x hIX hIK hat hcodes
    refine call_fnG (X := X) (names := ["signs"]) (ds := [.own I]) (fn229 _) r tk wd x (by simp only [IsAll]; exact ⟨_, _, rfl, by simp only [Is], rfl⟩) rfl rfl (by rfl) (by decide) fun e s₁ he r' hown F => ?_
    have fe : Fe (fScope (top 22)).names e := by subst he; exact Fe.of (fn229 _)
    clear he
    have hk := fe.hk
    have hda : a.dep + 2 ≤ (Fm.bin amp a b).dep + 1 := by simp only [Fm.dep]; omega
    have hdb : b.dep + 2 ≤ (Fm.bin amp a b).dep + 1 := by simp only [Fm.dep]; omega
    have hda' : a.dep ≤ 16 := by simp only [Fm.dep] at hdep; omega
    have hdb' : b.dep ≤ 16 := by simp only [Fm.dep] at hdep; omega
    have inOut : ∀ b o, s.heap.get? b = some o → b ∉ ownOf e [] := fun b o hb h => by rw [hown b h] at hb; cases hb
    have hIX' : I ∈ outOf e X := List.mem_cons_of_mem _ (List.mem_append_right _ hIX)
    have M : FM w s (I :: ownOf e []) e (outOf e X) [("signs", .own I)] I L codes i s₁ := ⟨F.moreMu fun b hb => List.mem_cons_of_mem _ hb, hat.keep fun b o _ ho => F.keep0 b o (inOut b o ho) ho, hIX', List.mem_cons_self, hIK⟩
    have c0 := hcodes 0 40 rfl
    have ca : ∀ k c, (canon a)[k]? = some c → codes[i + 1 + k]? = some c := fun k c hkc => by
      have := hcodes (1 + k) c (by
        simp only [canon, List.append_assoc]
        rw [List.getElem?_append_right (by simp)]
        simp only [List.length_cons, List.length_nil, Nat.add_sub_cancel_left]
        rw [List.getElem?_append_left (List.getElem?_eq_some_iff.mp hkc).1]; exact hkc)
      rwa [show i + 1 + k = i + (1 + k) by omega]
    have cc := hcodes (1 + (canon a).length) (conC amp) (by
        simp only [canon, List.append_assoc]
        rw [List.getElem?_append_right (by simp)]
        simp only [List.length_cons, List.length_nil, Nat.add_sub_cancel_left]
        rw [List.getElem?_append_right (Nat.le_refl _)]; simp)
    have cb : ∀ k c, (canon b)[k]? = some c → codes[i + (1 + (canon a).length) + 1 + k]? = some c := fun k c hkc => by
      have := hcodes (1 + ((canon a).length + (1 + k))) c (by
        simp only [canon, List.append_assoc]
        rw [List.getElem?_append_right (by simp)]
        simp only [List.length_cons, List.length_nil, Nat.add_sub_cancel_left]
        rw [List.getElem?_append_right (by simp)]
        simp only [Nat.add_sub_cancel_left]
        rw [List.getElem?_append_right (by simp)]
        simp only [List.length_cons, List.length_nil, Nat.add_sub_cancel_left]
        rw [List.getElem?_append_left (List.getElem?_eq_some_iff.mp hkc).1]; exact hkc)
      rwa [show i + (1 + (canon a).length) + 1 + k = i + (1 + ((canon a).length + (1 + k))) by omega]
    have ce := hcodes (1 + ((canon a).length + (1 + (canon b).length))) 41 (by
        simp only [canon, List.append_assoc]
        rw [List.getElem?_append_right (by simp)]
        simp only [List.length_cons, List.length_nil, Nat.add_sub_cancel_left]
        rw [List.getElem?_append_right (by simp)]
        simp only [Nat.add_sub_cancel_left]
        rw [List.getElem?_append_right (by simp)]
        simp only [List.length_cons, List.length_nil, Nat.add_sub_cancel_left]
        rw [List.getElem?_append_right (Nat.le_refl _)]; simp)
    refine execs_cons' (M.assign (EvM.next fe.g (fe.kd _ _ rfl) rfl c0) hk (fe.kd _ _ rfl) fun s₂ M => ?_)
    refine execs_cons' (M.if_ (b := false) (EvT.eq (EvT.cmp (Op2.neS (x := S [40]) (y := "(")) (Ev.var hk) Ev.str) (by decide)) (fun h => by cases h) fun _ s₃ M => execs_nil' ?_)
    refine execs_cons' (M.assign (EvM.callF (j := i + 1 + (canon a).length) (d := .int (maskI a)) fe.g (fe.kd _ _ rfl) (gl_law_cases _) (fn229 _) rfl fun s' tk' wd' x' at' => iha hda' (r'.less hda) tk' wd' x' hIX' hIK at' ca) hk (fe.kd _ _ rfl) fun s₄ M => ?_)
    refine execs_cons' (M.assign (EvM.index Ev.str (EvM.next fe.g (fe.kd _ _ rfl) rfl (by rw [show i + 1 + (canon a).length = i + (1 + (canon a).length) by omega]; exact cc)) (con_ix amp)) hk (fe.kd _ _ rfl) fun s₅ M => ?_)
    refine execs_cons' (M.assign (EvM.callF (j := i + (1 + (canon a).length) + 1 + (canon b).length) (d := .int (maskI b)) fe.g (fe.kd _ _ rfl) (gl_law_cases _) (fn229 _) rfl fun s' tk' wd' x' at' => ihb hdb' (r'.less hdb) tk' wd' x' hIX' hIK (by rw [show i + (1 + (canon a).length) + 1 = i + 1 + (canon a).length + 1 by omega]; exact at') cb) hk (fe.kd _ _ rfl) fun s₆ M => ?_)
    refine execs_cons' (M.expr fe (EvM.next (c := 41) fe.g (fe.kd _ _ rfl) rfl (by rw [show i + (1 + (canon a).length) + 1 + (canon b).length = i + (1 + ((canon a).length + (1 + (canon b).length))) by omega]; exact ce)) fun s₇ M => ?_)
    refine execs_cons' (M.ret (d := .int (maskI (.bin amp a b))) (Ev.ife (c := amp) (EvT.eq (EvT.of (Ev.var hk) OpT.int) (by cases amp <;> rfl)) (fun ha => ?_) fun ha => ?_) fun v s₄ M iv => ⟨iv.less fun a ha => List.mem_cons_of_mem _ (List.mem_append_right _ ha), ⟨M.tk0, M.same, fun b o hb ho => M.keep0 b o (fun hm => ?_) ho⟩, ?_⟩)
    · subst ha
      exact Ev.bin Op2.and (Ev.var hk) (Ev.var hk)
    · subst ha
      exact Ev.bin Op2.or (Ev.bin Op2.sub Ev.int (Ev.var hk)) (Ev.var hk)
    · rcases List.mem_cons.mp hm with q | hm
      · exact hb (by simp [q])
      · exact inOut b o ho hm
    · have hl : i + (canon (.bin amp a b)).length = i + (1 + (canon a).length) + 1 + (canon b).length + 1 := by simp [canon]; omega
      rw [hl]; exact M.at_
end
end Mine

namespace Mine
open PySem PySem.W PySem.StrLaws PySem.Builtin PySem.Builtin.Str

/-! ## a text replaced by another -/
inductive Rep (q z : List Nat) : List Nat → List Nat → Prop
  | nil : Rep q z [] []
  | hit {r r' : List Nat} : Rep q z r r' → Rep q z (q ++ r) (z ++ r')
  | miss {c : Nat} {r r' : List Nat} : ¬ q <+: (c :: r) → Rep q z r r' → Rep q z (c :: r) (c :: r')
theorem Rep.det {q z : List Nat} (hq : q ≠ []) : ∀ {l r : List Nat}, Rep q z l r → ∀ {r' : List Nat}, Rep q z l r' → r = r' := by
  intro l r h
  induction h with
  | nil =>
    intro r' h'
    generalize hl : ([] : List Nat) = l at h'
    cases h' with
    | nil => rfl
    | hit h => exact absurd (List.append_eq_nil_iff.mp hl.symm).1 hq
    | miss _ _ => cases hl
  | hit h ih =>
    intro r' h'
    rename_i a b
    generalize hl : q ++ a = l at h'
    cases h' with
    | nil => exact absurd (List.append_eq_nil_iff.mp hl).1 hq
    | hit h2 => rw [ih ((List.append_cancel_left hl).symm ▸ h2)]
    | miss hn _ => exact absurd ⟨a, hl⟩ hn
  | miss hn h ih =>
    intro r' h'
    rename_i c a b
    generalize hl : c :: a = l at h'
    cases h' with
    | nil => cases hl
    | hit h2 => exact absurd ⟨_, hl.symm⟩ hn
    | miss _ h2 => cases hl; rw [ih h2]
theorem at_iff (l q : List Nat) (k : Nat) : StrLaws.At (S l) (S q) (S l).length k ↔ k + q.length ≤ l.length ∧ q <+: l.drop k := by
  have e1 : (S l).length = l.length := by simp [Str.length]
  have e2 : (S q).length = q.length := by simp [Str.length]
  unfold StrLaws.At
  rw [e1, e2, subAt_eq, e2]
  refine and_congr_right fun h => ?_
  rw [beq_iff_eq]
  show (l.toArray.toList.drop k).take q.length = q.toArray.toList ↔ _
  simp only [List.toList_toArray]
  constructor
  · intro h
    have e := List.take_append_drop q.length (l.drop k)
    rw [h] at e
    exact ⟨_, e⟩
  · rintro ⟨t, ht⟩
    rw [← ht]; simp
theorem miss_run {l q z R : List Nat} : ∀ (n a : Nat), a + n ≤ l.length → (∀ k, a ≤ k → k < a + n → ¬ q <+: l.drop k) → Rep q z (l.drop (a + n)) R → Rep q z (l.drop a) ((l.drop a).take n ++ R)
  | 0, a, _, _, h => by simpa using h
  | n + 1, a, hl, hn, h => by
    have ih := miss_run n (a + 1) (by omega) (fun k h1 h2 => hn k (by omega) (by omega)) (by rwa [show a + 1 + n = a + (n + 1) by omega])
    rw [List.drop_eq_getElem_cons (by omega : a < l.length)]
    rw [List.take_succ_cons, List.cons_append]
    refine .miss ?_ ih
    have := hn a (Nat.le_refl _) (by omega)
    rwa [List.drop_eq_getElem_cons (by omega : a < l.length)] at this
theorem Rep.parts {l q z : List Nat} (hq : q ≠ []) : ∀ (cuts : List Nat) (a f : Nat), ChainG (S l) (S q) (S l).length a cuts f → (∀ k, f ≤ k → ¬ StrLaws.At (S l) (S q) (S l).length k) → a ≤ l.length →
    Rep q z (l.drop a) (Str.join (S z) (partsFrom (S l) (S q).length a cuts)).cps.toList
  | [], a, f, h, hf, ha => by
    have e : f = a := h
    subst e
    have hR : Rep q z (l.drop (f + (l.length - f))) [] := by rw [List.drop_of_length_le (by omega)]; exact .nil
    have := miss_run (z := z) (l.length - f) f (by omega) (fun k h1 h2 hp => hf k h1 ((at_iff l q k).mpr ⟨by
      obtain ⟨t, ht⟩ := hp
      have := congrArg List.length ht
      simp at this; omega, hp⟩)) hR
    show Rep q z (l.drop f) (strSub (S l) f (S l).length).cps.toList
    rw [strSub_toList]
    simpa [Str.length] using this
  | c :: r, a, f, h, hf, ha => by
    obtain ⟨h1, h2, h3, h4⟩ := h
    have ec := (at_iff l q c).mp h2
    have eq : (S q).length = q.length := by simp [Str.length]
    rw [eq] at h4
    have ih := Rep.parts (z := z) hq r (c + q.length) f h4 hf ec.1
    obtain ⟨p, rr, e⟩ := partsFrom_ne (S l) (S q).length (c + (S q).length) r
    show Rep q z (l.drop a) (Str.join (S z) (strSub (S l) a c :: partsFrom (S l) (S q).length (c + (S q).length) r)).cps.toList
    rw [eq] at e ⊢
    rw [eq] at ih
    rw [e] at ih ⊢
    show Rep q z (l.drop a) (strSub (S l) a c ++ S z ++ Str.join (S z) (p :: rr)).cps.toList
    simp only [Str.cps_append, Array.toList_append, strSub_toList, List.append_assoc]
    have hit : Rep q z (l.drop c) (z ++ (Str.join (S z) (p :: rr)).cps.toList) := by
      obtain ⟨t, ht⟩ := ec.2
      have e2 : l.drop (c + q.length) = t := by rw [← List.drop_drop, ← ht]; simp
      rw [← ht]
      rw [e2] at ih
      exact .hit ih
    have := miss_run (z := z) (c - a) a (by omega) (fun k k1 k2 hp => h3 k k1 (by omega) ((at_iff l q k).mpr ⟨by
      obtain ⟨t, ht⟩ := hp
      have := congrArg List.length ht
      simp at this; omega, hp⟩)) (by rw [show a + (c - a) = c by omega]; exact hit)
    simpa using this
theorem replaceL {l q z r : List Nat} (hq : q ≠ []) (h : Rep q z l r) : Txt.replace (S l) (S q) (S z) = S r := by
  have hw : 1 ≤ (S q).length := by
    have := List.length_pos_iff.mpr hq
    simp [Str.length]; omega
  obtain ⟨f, hc, hf⟩ := occ_tight (S l) (S q) hw
  have hR := Rep.parts (z := z) hq _ 0 f hc hf (Nat.zero_le _)
  rw [List.drop_zero] at hR
  have key : Txt.replace (S l) (S q) (S z) = Str.join (S z) (partsFrom (S l) (S q).length 0 (occurrences (S l) (S q) 0 (S l).length ((S l).length + 1))) := by
    unfold Txt.replace
    have h10 : ((S q).length == 0) = false := by
      rw [beq_eq_false_iff_ne]; omega
    rw [h10, Bool.false_and, Bool.or_false]
    split
    · rename_i he
      have : occurrences (S l) (S q) 0 (S l).length ((S l).length + 1) = [] := by
        cases ho : occurrences (S l) (S q) 0 (S l).length ((S l).length + 1) with
        | nil => rfl
        | cons a b => rw [ho] at he; simp at he
      rw [this]
      exact (sub_whole (S l)).symm
    · rw [glued_eq_join, partsBetween_eq]
  rw [key]
  have e := Rep.det hq hR h
  rw [← e]
theorem Rep.one {q z r r' : List Nat} {c h : Nat} (hq : q.head? = some h) (hc : c ≠ h) (i : Rep q z r r') : Rep q z (c :: r) (c :: r') := by
  refine .miss (fun hp => ?_) i
  cases q with
  | nil => cases hq
  | cons a t =>
    simp only [List.head?_cons, Option.some.injEq] at hq
    obtain ⟨u, hu⟩ := hp
    simp only [List.cons_append, List.cons.injEq] at hu
    exact hc (hu.1.symm.trans hq)

/-! ## the text read back -/
noncomputable def opE (amp : Bool) : List Nat := if amp then ampL else gtL
noncomputable def escT (c : Int) : Fm → List Nat
  | .v i => (fstOf c + i.val) :: unsOf c
  | .bin amp a b => [40] ++ escT c a ++ opE amp ++ escT c b ++ [41]
noncomputable def midT (c : Int) : Fm → List Nat
  | .v i => (fstOf c + i.val) :: unsOf c
  | .bin amp a b => [40] ++ midT c a ++ (if amp then ampL else [45]) ++ midT c b ++ [41]
noncomputable def backT (c : Int) : Fm → List Nat
  | .v i => (fstOf c + i.val) :: unsOf c
  | .bin amp a b => [40] ++ backT c a ++ [conC amp] ++ backT c b ++ [41]
noncomputable def atomC (c : Int) (i : Fin 3) : List Nat := (fstOf c + i.val) :: unsOf c
theorem atom_ok (c : Int) (i : Fin 3) : ∀ n ∈ atomC c i, n ≠ 38 ∧ n ≠ 62 ∧ n ≠ 32 ∧ n ≠ 9 := by
  have h1 : ∀ k : Fin 5, ∀ i : Fin 3, ∀ n ∈ [firstL.getD k.val 0 + i.val], n ≠ 38 ∧ n ≠ 62 ∧ n ≠ 32 ∧ n ≠ 9 := by decide
  have h2 : ∀ k : Fin 6, ∀ n ∈ unseenL.getD k.val [], n ≠ 38 ∧ n ≠ 62 ∧ n ≠ 32 ∧ n ≠ 9 := by decide
  intro n hn
  simp only [atomC, List.mem_cons] at hn
  rcases hn with rfl | hn
  · exact h1 ⟨ix5 c, (ix5_lt c).1⟩ i _ (by simp [fstOf])
  · exact h2 ⟨ix6 c, (ix6_lt c).1⟩ _ hn
theorem esc_free {l : List Nat} (h : ∀ n ∈ l, n ≠ 38 ∧ n ≠ 62) : esc l = l := by
  unfold esc
  rw [subst1_free 38 ampL l (fun hm => (h _ hm).1 rfl), subst1_free 62 gtL l (fun hm => (h _ hm).2 rfl)]
theorem esc_app (a b : List Nat) : esc (a ++ b) = esc a ++ esc b := by unfold esc; rw [subst1_append, subst1_append]
theorem esc_txt (c : Int) : ∀ f : Fm, esc (txt c f) = escT c f
  | .v i => esc_free fun n hn => let h := atom_ok c i n hn; ⟨h.1, h.2.1⟩
  | .bin amp a b => by
    have e1 : esc [40] = [40] := by decide
    have e2 : esc [41] = [41] := by decide
    have e3 : esc [opC amp] = opE amp := by revert amp; decide
    simp only [txt, escT, esc_app, e1, e2, e3, esc_txt c a, esc_txt c b]
theorem rep_list {q z : List Nat} {h : Nat} (hq : q.head? = some h) : ∀ {l r r' : List Nat}, (∀ n ∈ l, n ≠ h) → Rep q z r r' → Rep q z (l ++ r) (l ++ r')
  | [], _, _, _, i => i
  | c :: l, r, r', hl, i => Rep.one hq (hl c List.mem_cons_self) (rep_list hq (fun n hn => hl n (List.mem_cons_of_mem _ hn)) i)
theorem rep1 (c : Int) : ∀ (f : Fm) {r r' : List Nat}, Rep gtL [45] r r' → Rep gtL [45] (escT c f ++ r) (midT c f ++ r')
  | .v i, r, r', h => rep_list (h := 38) rfl (fun n hn => (atom_ok c i n hn).1) h
  | .bin amp a b, r, r', h => by
    simp only [escT, midT, List.append_assoc]
    refine rep_list (h := 38) rfl (by decide) (rep1 c a ?_)
    have h2 : Rep gtL [45] (escT c b ++ ([41] ++ r)) (midT c b ++ ([41] ++ r')) := rep1 c b (rep_list (h := 38) rfl (by decide) h)
    cases amp with
    | true =>
      show Rep gtL [45] (38 :: ([97, 109, 112, 59] ++ _)) (38 :: ([97, 109, 112, 59] ++ _))
      refine .miss ?_ (rep_list (h := 38) rfl (by decide) h2)
      rintro ⟨t, ht⟩
      simp [gtL] at ht
    | false => exact .hit h2
theorem rep2 (c : Int) : ∀ (f : Fm) {r r' : List Nat}, Rep ampL [43] r r' → Rep ampL [43] (midT c f ++ r) (backT c f ++ r')
  | .v i, r, r', h => rep_list (h := 38) rfl (fun n hn => (atom_ok c i n hn).1) h
  | .bin amp a b, r, r', h => by
    simp only [midT, backT, List.append_assoc]
    refine rep_list (h := 38) rfl (by decide) (rep2 c a ?_)
    have h2 : Rep ampL [43] (midT c b ++ ([41] ++ r)) (backT c b ++ ([41] ++ r')) := rep2 c b (rep_list (h := 38) rfl (by decide) h)
    cases amp with
    | true => exact .hit h2
    | false => exact rep_list (l := [45]) (h := 38) rfl (by decide) h2
theorem back1 (c : Int) (f : Fm) : Txt.replace (S (esc (txt c f))) "&gt;" "-" = S (midT c f) := by
  have := rep1 c f (r := []) (r' := []) .nil
  rw [List.append_nil, List.append_nil] at this
  rw [esc_txt]
  exact replaceL (q := gtL) (z := [45]) (by decide) this
theorem back2 (c : Int) (f : Fm) : Txt.replace (S (midT c f)) "&amp;" "+" = S (backT c f) := by
  have := rep2 c f (r := []) (r' := []) .nil
  rw [List.append_nil, List.append_nil] at this
  exact replaceL (q := ampL) (z := [43]) (by decide) this
theorem slice_from (l : List Nat) (k : Nat) (hk : k ≤ l.length) : Txt.slice (S l) (some (k : Int)) none = S (l.drop k) := by
  have e1 : (S l).length = l.length := by simp [Str.length]
  have e0 : strSliceIndices (some (k : Int)) none 1 (S l).length = strSliceIndices (some (k : Int)) (some ((l.length : Nat) : Int)) 1 (S l).length := by
    rw [e1]
    have h2 : ¬ (((l.length : Nat) : Int) < 0) := by omega
    have e2 : max (0 : Int) (min ((l.length : Nat) : Int) (l.length : Int)) = (l.length : Nat) := by omega
    simp only [strSliceIndices, h2, if_false, e2, show ((1 : Int) > 0) = True from by simp, if_true]
  have e2 := sliced_plain (S l) (a := k) (b := l.length) hk (by rw [e1]; exact Nat.le_refl _)
  have e3 : ((S l).cps.toList.drop k).take (l.length - k) = l.drop k := by
    show (l.drop k).take (l.length - k) = l.drop k
    exact List.take_of_length_le (by simp)
  unfold Txt.slice
  split
  · rename_i h
    rw [e0, e1, strSliceIndices_plain hk (Nat.le_refl _)] at h
    simp at h
    have : k = 0 := by omega
    rw [this]; rfl
  · rw [e0, e2, e3]
/-- the signs that are seen, mapped -/
theorem vis_atom (c : Int) (i : Fin 3) : (∀ n ∈ atomC c i, n ∈ visL ++ hidL) ∧ ((atomC c i).filter fun n => !decide (n ∈ hidL)).map m3 = [112 + i.val] ∧ ∀ n ∈ atomC c i, n ∉ hidL → n ∈ visL := by
  have h1 : ∀ k : Fin 5, ∀ u : Fin 6, ∀ i : Fin 3, (∀ n ∈ (firstL.getD k.val 0 + i.val) :: unseenL.getD u.val [], n ∈ visL ++ hidL) ∧ (((firstL.getD k.val 0 + i.val) :: unseenL.getD u.val []).filter fun n => !decide (n ∈ hidL)).map m3 = [112 + i.val] ∧
    ∀ n ∈ (firstL.getD k.val 0 + i.val) :: unseenL.getD u.val [], n ∉ hidL → n ∈ visL := by decide +kernel
  exact h1 ⟨ix5 c, (ix5_lt c).1⟩ ⟨ix6 c, (ix6_lt c).1⟩ i
theorem back_vis (c : Int) : ∀ f : Fm, ∀ n ∈ backT c f, n ∈ visL ++ hidL
  | .v i => (vis_atom c i).1
  | .bin amp a b => by
    have ha := back_vis c a
    have hb := back_vis c b
    intro n hn
    simp only [backT, List.mem_append, List.mem_cons, List.not_mem_nil, or_false] at hn
    rcases hn with (((rfl | hn) | rfl) | hn) | rfl
    · decide
    · exact ha n hn
    · cases amp <;> decide
    · exact hb n hn
    · decide
theorem back_canon (c : Int) : ∀ f : Fm, ((backT c f).filter fun n => !decide (n ∈ hidL)).map m3 = canon f
  | .v i => (vis_atom c i).2.1
  | .bin amp a b => by
    have e1 : (([40] : List Nat).filter fun n => !decide (n ∈ hidL)).map m3 = [40] := by decide
    have e2 : (([41] : List Nat).filter fun n => !decide (n ∈ hidL)).map m3 = [41] := by decide
    have e3 : (([conC amp] : List Nat).filter fun n => !decide (n ∈ hidL)).map m3 = [conC amp] := by revert amp; decide
    simp only [backT, canon, List.filter_append, List.map_append, e1, e2, e3, back_canon c a, back_canon c b]
theorem vis_of {n : Nat} (h : n ∈ visL ++ hidL) (h2 : n ∉ hidL) : n ∈ visL := by
  rcases List.mem_append.mp h with h | h
  · exact h
  · exact absurd h h2
theorem escT_head (c : Int) : ∀ (f : Fm) (n : Nat), (escT c f).head? = some n → n ≠ 32 ∧ n ≠ 9
  | .v i, n, h => by
    have := atom_ok c i n (by
      simp only [escT, List.head?_cons, Option.some.injEq] at h
      rw [← h]; exact List.mem_cons_self)
    exact ⟨this.2.2.1, this.2.2.2⟩
  | .bin amp a b, n, h => by
    simp [escT] at h
    subst h; decide
end Mine

namespace Mine
open PySem PySem.W

/-! ## masks of eight cases -/
theorem testBit_maskL : ∀ (bs : List Bool) (i : Nat), (maskL bs).testBit i = bs.getD i false
  | [], i => by simp [maskL]
  | b :: r, 0 => by
    simp only [maskL, Nat.testBit_zero, List.getD_cons_zero]
    cases b <;> simp <;> omega
  | b :: r, i + 1 => by
    have e : ((if b = true then 1 else 0) + 2 * maskL r) / 2 = maskL r := by split <;> omega
    rw [maskL, Nat.testBit_succ, e, testBit_maskL r i]
    simp
noncomputable def mk8 (g : Nat → Bool) : Nat := maskL ((List.range 8).map g)
theorem mk8_bit (g : Nat → Bool) (i : Nat) : (mk8 g).testBit i = (decide (i < 8) && g i) := by
  unfold mk8
  rw [testBit_maskL, List.getD_eq_getElem?_getD, List.getElem?_map]
  by_cases h : i < 8
  · rw [List.getElem?_range h]; simp [h]
  · rw [List.getElem?_eq_none (by simp; omega)]; simp [h]
theorem mk8_lt (g : Nat → Bool) : mk8 g < 256 := by
  have := maskL_lt ((List.range 8).map g)
  simpa [mk8] using this
theorem mk8_congr {g h : Nat → Bool} (e : ∀ k < 8, g k = h k) : mk8 g = mk8 h := by
  unfold mk8
  congr 1
  exact List.map_congr_left fun k hk => e k (by simpa using hk)
theorem mk8_and (g h : Nat → Bool) : Builtin.bitAnd (mk8 g : Int) (mk8 h : Int) = (mk8 fun k => g k && h k : Nat) := by
  have e : Builtin.bitAnd (mk8 g : Int) (mk8 h : Int) = ((mk8 g &&& mk8 h : Nat) : Int) := by
    unfold Builtin.bitAnd
    have h1 : decide (0 ≤ ((mk8 g : Nat) : Int)) = true := decide_eq_true (Int.natCast_nonneg _)
    have h2 : decide (0 ≤ ((mk8 h : Nat) : Int)) = true := decide_eq_true (Int.natCast_nonneg _)
    rw [h1, h2]; simp
  rw [e]
  congr 1
  apply Nat.eq_of_testBit_eq
  intro i
  rw [Nat.testBit_and, mk8_bit, mk8_bit, mk8_bit]
  cases decide (i < 8) <;> simp
theorem bitOr_nat (a b : Nat) : Builtin.bitOr (a : Int) (b : Int) = ((a ||| b : Nat) : Int) := by
  unfold Builtin.bitOr Builtin.bitAnd
  have n1 : ∀ a : Nat, decide (0 ≤ Builtin.bitNot (a : Int)) = false := fun a => by
    unfold Builtin.bitNot; exact decide_eq_false (by omega)
  have n2 : ∀ x : Int, Builtin.bitNot (Builtin.bitNot x) = x := fun x => by unfold Builtin.bitNot; omega
  rw [n1, n1]
  simp only [n2, Int.toNat_natCast]
theorem mk8_or (g h : Nat → Bool) : Builtin.bitOr (mk8 g : Int) (mk8 h : Int) = (mk8 fun k => g k || h k : Nat) := by
  rw [bitOr_nat]
  congr 1
  apply Nat.eq_of_testBit_eq
  intro i
  rw [Nat.testBit_or, mk8_bit, mk8_bit, mk8_bit]
  cases decide (i < 8) <;> simp
theorem maskL_not : ∀ bs : List Bool, maskL bs + maskL (bs.map not) + 1 = 2 ^ bs.length
  | [] => rfl
  | b :: r => by
    have := maskL_not r
    simp only [maskL, List.map_cons, List.length_cons, Nat.pow_succ]
    cases b <;> simp <;> omega
theorem mk8_not (g : Nat → Bool) : (255 : Int) - (mk8 g : Int) = (mk8 fun k => !g k : Nat) := by
  have h := maskL_not ((List.range 8).map g)
  rw [List.map_map] at h
  have e : (List.range 8).map (not ∘ g) = (List.range 8).map fun k => !g k := rfl
  rw [e] at h
  simp only [List.length_map, List.length_range] at h
  unfold mk8
  omega
theorem mk8_big {g : Nat → Bool} (h : g 7 = true) : 16 ≤ mk8 g := by
  have hb := mk8_bit g 7
  rw [h] at hb
  have := Nat.ge_two_pow_of_testBit (show (mk8 g).testBit 7 = true from hb)
  omega
theorem mk8_all {g : Nat → Bool} (h : ∀ k < 8, g k = true) : mk8 g = 255 := by
  rw [mk8_congr (h := fun _ => true) h]; decide +kernel
theorem maskI_eq : ∀ f : Fm, maskI f = (mk8 f.ev : Nat)
  | .v j => by
    have : ∀ j : Fin 3, atomM j = ((mk8 fun k => k.testBit j.val : Nat) : Int) := by decide +kernel
    exact this j
  | .bin true a b => by
    simp only [maskI, maskI_eq a, maskI_eq b, mk8_and]
    congr 1
  | .bin false a b => by
    simp only [maskI, maskI_eq a, maskI_eq b, mk8_not, mk8_or]
    congr 1

/-! ## the blocks, line by line -/
noncomputable def prevBl (ls : List Ln) (k : Nat) : List Nat := if k = 0 then [] else (lnAt ls (k - 1)).bl
noncomputable def StepAt (b b' : List Nat) (k : Nat) : Prop := (b' = b ++ [k] ∧ b.length < 3) ∨ b' = b ∨ (b ≠ [] ∧ b' = b.dropLast)
noncomputable def Steps (ls : List Ln) : Prop := ∀ k < ls.length, StepAt (prevBl ls k) (lnAt ls k).bl k
theorem drawn1_step (ls : List Ln) (b : List Nat) (v : Int) : StepAt b (drawn1 ls b v).bl ls.length := by
  unfold drawn1
  dsimp only
  split
  · rename_i h; exact .inl ⟨rfl, h.1⟩
  · rename_i h
    split
    · rename_i h1
      exact .inr (.inr ⟨fun q => h ⟨by rw [q]; simp, .inr (.inr ⟨h1, q⟩)⟩, rfl⟩)
    · split <;> exact .inr (.inl rfl)
theorem steps_go : ∀ (ns : List Int) (ls : List Ln) (b : List Nat), Good ls b → Steps ls → Steps (drawnGo ls b ns)
  | [], ls, b, _, h => h
  | v :: r, ls, b, g, h => by
    refine steps_go r _ _ (g.step v) fun k hk => ?_
    rw [List.length_append, List.length_singleton] at hk
    by_cases q : k = ls.length
    · subst q
      have e1 : prevBl (ls ++ [drawn1 ls b v]) ls.length = b := by
        unfold prevBl
        split
        · rename_i h0
          exact (g.nil (List.length_eq_zero_iff.mp h0)).symm
        · rename_i h0
          rw [lnAt_app (by omega)]
          exact g.last (fun q => h0 (by rw [q]; rfl))
      rw [e1, lnAt_new]
      exact drawn1_step ls b v
    · have hk' : k < ls.length := by omega
      have e1 : prevBl (ls ++ [drawn1 ls b v]) k = prevBl ls k := by
        unfold prevBl
        split
        · rfl
        · rw [lnAt_app (by omega)]
      rw [e1, lnAt_app hk']
      exact h k hk'
theorem steps_drawn (ns : List Int) : Steps (drawnL ns) := steps_go ns [] [] Good.nil0 fun k hk => by simp at hk
theorem good_drawn (ns : List Int) : ∃ b, Good (drawnL ns) b ∧ (drawnL ns).length = ns.length := by
  obtain ⟨b, h1, h2⟩ := Good.go ns [] [] Good.nil0
  exact ⟨b, h1, by show (drawnGo [] [] ns).length = _; simpa using h2⟩
end Mine

namespace Mine
open PySem PySem.W PyProof.Rows PySem.SeqAt

theorem keep83 (P : Params) : keepIn (KK P) (.ref 83) = true := by kernel_rfl
section
variable {w : World} {A : Around} {s₀ : Shared} {Mu : List Addr} {en : List (Str × NameKind)} {e : Env} {X : List Addr} {Ow : Owns} {Γ : List (Str × Dt)} {s : Shared}
/-- Whitespace(..) -/
theorem Ev.callCls {f : Str} {p pos : Pos} {ex : Expr} {ds : List Dt} {d : Dt} (g : GEnv e) (hk : e.kindOf f = some .globalImplicit) (hv : GlobV w.params f (.ref 83))
    (ha : EvAll w A e X Ow Γ pos [ex] ds) (o : OpC w A X (.ref 83) ds d) (he : starEach [ex] e = (false, eval ex e) :: starEach [] e := by rfl)
    (hd : (f == ("__debug__" : Str)) = false := by rfl) : Ev w A e X Ow Γ (.Call (.Name f p) [ex] [] pos) d := .mk fun s c => by
  refine wpAny_Call_NameR (hv.load g hk c.wd ?_ hd)
  refine callWith_KW (K := KK w.params) (h₀ := s.heap) (kws := []) c.wd (keep83 _) (by rfl) (wpb (ha.h s c) fun vs s₁ ⟨k₁, i₁⟩ => ?_) (by rw [he]; rfl) he
  have c₁ := c.keep k₁
  exact wpAny_pure ⟨c₁.wd, wpb (o.h s₁ vs c₁.tk c₁.wd c₁.xin i₁) fun v s₂ ⟨k₂, i₂⟩ => ⟨k₁.trans k₂, i₂⟩⟩
end
end Mine

namespace Mine
open PySem PySem.W PyProof.Rows PySem.SeqAt

theorem app2 {α : Type} {a b c d : List α} (h : a = c) (k : b = d) : a ++ b = c ++ d := by rw [h, k]
/-! ## what the judge holds -/
noncomputable def alwDt (ls : List Ln) (b : List Nat) : List Dt := (List.range (b.length + 1)).map fun j => .int (mk8 (allOf ls (b.take j)) : Nat)
noncomputable def ldsDt (ls : List Ln) (rs : Nat → Str) (b : List Nat) : List Dt := (List.range (b.length + 1)).map fun j => .inst (wsDt (rs j) (wOf (psOf ls (b.take j))))
noncomputable def rowDt (ls : List Ln) (k : Nat) : Dt := .lst [.int ((lnAt ls k).bl.length : Nat), .bytes (apOf (mk8 (lnAt ls k).f.ev)), .bytes (apOf (mk8 (allOf ls (lnAt ls k).bl))), .bytes (apOf (mk8 fun c => !allOf ls (lnAt ls k).bl c || (lnAt ls k).f.ev c))]
noncomputable def toldDt (ls : List Ln) (k : Nat) : List Dt := (List.range k).map (rowDt ls)
theorem alw_len (ls : List Ln) (b : List Nat) : (alwDt ls b).length = b.length + 1 := by simp [alwDt]
theorem lds_len (ls : List Ln) (rs : Nat → Str) (b : List Nat) : (ldsDt ls rs b).length = b.length + 1 := by simp [ldsDt]
theorem told_len (ls : List Ln) (k : Nat) : (toldDt ls k).length = k := by simp [toldDt]
theorem told_succ (ls : List Ln) (k : Nat) : toldDt ls (k + 1) = toldDt ls k ++ [rowDt ls k] := by simp [toldDt, List.range_succ]
theorem alw_last (ls : List Ln) (b : List Nat) : (alwDt ls b)[b.length]? = some (.int (mk8 (allOf ls b) : Nat)) := by
  unfold alwDt
  rw [List.getElem?_map, List.getElem?_range (by omega)]; simp
theorem lds_last (ls : List Ln) (rs : Nat → Str) (b : List Nat) : (ldsDt ls rs b)[b.length]? = some (.inst (wsDt (rs b.length) (wOf (psOf ls b)))) := by
  unfold ldsDt
  rw [List.getElem?_map, List.getElem?_range (by omega)]; simp
theorem neg1_ix (n : Nat) : seqIndex? (-1) (n + 1) = some n := by unfold seqIndex?; simp; omega
theorem take_drop1 {b : List Nat} {j : Nat} (h : j ≤ b.dropLast.length) : b.dropLast.take j = b.take j := by
  rw [List.dropLast_eq_take, List.take_take]
  congr 1
  simp at h; omega
theorem alw_pop (ls : List Ln) {b : List Nat} (h : b ≠ []) : alwDt ls b = alwDt ls b.dropLast ++ [.int (mk8 (allOf ls b) : Nat)] := by
  have hl : b.dropLast.length + 1 = b.length := by have := List.length_pos_iff.mpr h; simp; omega
  unfold alwDt
  rw [List.range_succ, List.map_append, hl]
  refine app2 (List.map_congr_left fun j hj => ?_) (by simp)
  rw [take_drop1 (by have : j < b.length := by simpa using hj
                     omega)]
theorem lds_pop (ls : List Ln) (rs : Nat → Str) {b : List Nat} (h : b ≠ []) : ldsDt ls rs b = ldsDt ls rs b.dropLast ++ [.inst (wsDt (rs b.length) (wOf (psOf ls b)))] := by
  have hl : b.dropLast.length + 1 = b.length := by have := List.length_pos_iff.mpr h; simp; omega
  unfold ldsDt
  rw [List.range_succ, List.map_append, hl]
  refine app2 (List.map_congr_left fun j hj => ?_) (by simp)
  rw [take_drop1 (by have : j < b.length := by simpa using hj
                     omega)]
theorem allOf_snoc (ls : List Ln) (b : List Nat) (k c : Nat) : allOf ls (b ++ [k]) c = (allOf ls b c && (lnAt ls k).f.ev c) := by
  simp [allOf]
theorem alw_push (ls : List Ln) (b : List Nat) (k : Nat) : alwDt ls (b ++ [k]) = alwDt ls b ++ [.int (mk8 (fun c => allOf ls b c && (lnAt ls k).f.ev c) : Nat)] := by
  have h := alw_pop ls (b := b ++ [k]) (by simp)
  rw [List.dropLast_concat] at h
  rw [h]
  have e : allOf ls (b ++ [k]) = fun c => allOf ls b c && (lnAt ls k).f.ev c := funext fun c => allOf_snoc ls b k c
  rw [e]
theorem lds_push (ls : List Ln) (rs : Nat → Str) (raw : Str) (b : List Nat) (k : Nat) : ldsDt ls (fun j => if j = b.length + 1 then raw else rs j) (b ++ [k]) = ldsDt ls rs b ++ [.inst (wsDt raw (wOf (psOf ls (b ++ [k]))))] := by
  have h := lds_pop ls (fun j => if j = b.length + 1 then raw else rs j) (b := b ++ [k]) (by simp)
  rw [List.dropLast_concat] at h
  rw [h]
  refine app2 ?_ (by simp)
  unfold ldsDt
  refine List.map_congr_left fun j hj => ?_
  have : j < b.length + 1 := by simpa using hj
  have hne : j ≠ b.length + 1 := by omega
  simp only [hne, if_false]
theorem psOf_dropLast (ls : List Ln) (b : List Nat) : psOf ls b.dropLast = (psOf ls b).dropLast := by
  unfold psOf; rw [List.map_dropLast]
theorem psOf_snoc (ls : List Ln) (b : List Nat) (k : Nat) : psOf ls (b ++ [k]) = psOf ls b ++ [ix4 (lnAt ls k).c] := by simp [psOf]
/-- the stack before the line, once it has been cut -/
noncomputable def cutB (b b' : List Nat) : List Nat := if b' = b.dropLast ∧ b ≠ [] then b' else b
theorem allOf7 (ls : List Ln) (b : List Nat) : allOf ls b 7 = true := by
  unfold allOf
  rw [List.all_eq_true]
  exact fun j _ => Fm.ev7 _
end Mine

namespace Mine
open PySem PySem.W PyProof.Rows PySem.SeqAt

section
variable {w : World} {A : Around} {s₀ : Shared} {Mu : List Addr} {en : List (Str × NameKind)} {e : Env} {X : List Addr} {Ow : Owns} {Γ : List (Str × Dt)} {s : Shared}
noncomputable def unS : Dt → Dt
  | .str x => .str (S [m3 (x.cps.toList.headD 0)])
  | _ => .none
noncomputable def hidS : Dt → Bool
  | .str x => !decide (x.cps.toList.headD 0 ∈ hidL)
  | _ => true
/-- iter(l), l a list that is made there -/
theorem iter_made {lx : Expr} {codes : List Nat} {p pos : Pos} {s : Shared} (g : GEnv e) (hk : e.kindOf "iter" = some .globalImplicit) (hl : Ev w A e X Ow Γ lx (.lst (codes.map fun c => .str (S [c])))) (c : Cx w e X Ow Γ s)
    (he : starEach [lx] e = (false, eval lx e) :: starEach [] e) :
    wpAny (model pw w) A (eval (.Call (.Name "iter" p) [lx] [] pos) e) (fun v s' => ∃ I L, v = .ref I ∧ Kp s s' ∧ s.heap.get? I = none ∧ At I L codes 0 s'.heap) Bot s := by
  refine wpAny_Call_NameR ((gl_iter w.params).load g hk c.wd ?_ rfl)
  refine callWith_fv (x := _) (r := _) (.blt _) c.wd (by rw [he]; rfl) (by rw [he]; rfl) (wpb ((EvAll.cons hl EvAll.nil he).h s c) fun vs s₁ ⟨k₁, i₁⟩ => ?_)
  refine ⟨(c.keep k₁).wd, ?_⟩
  obtain ⟨v, rfl, iv⟩ := i₁.one
  simp only [Is] at iv
  obtain ⟨L, us, rfl, _, ⟨n, hl⟩, hi⟩ := iv
  have hn := size_none s₁.heap
  refine call_iter_list (Heap.PlainList.isList ⟨n, hl⟩) ⟨_, L, rfl, k₁.trans (Kp.push _ _), none_back k₁ hn, ⟨⟨_, get_push _ _, rfl, rfl⟩, ⟨us, ⟨n, Heap.get?_push_of_some _ hl⟩, fun j c hc => ?_⟩, fun q => ?_⟩⟩
  · obtain ⟨v, hv, hiv⟩ := hi.nth (i := j) (d := .str (S [c])) (by rw [List.getElem?_map, hc]; rfl)
    simp only [Is] at hiv
    obtain ⟨t, rfl⟩ := hiv
    exact ⟨t, hv⟩
  · rw [q, hn] at hl; cases hl
theorem Ev.casesOf {lx : Expr} {f : Fm} {p p' pos pos' : Pos} (fe : Fe en e) (hk : e.kindOf "_law_cases" = some .globalImplicit) (hk' : e.kindOf "iter" = some .globalImplicit) (hd : f.dep ≤ 16) (r : Room (f.dep + 2) A) (hl : Ev w A e X Ow Γ lx (.lst ((canon f).map fun c => .str (S [c]))))
    (he : starEach [lx] e = (false, eval lx e) :: starEach [] e := by rfl)
    (he' : starEach [Expr.Call (.Name "iter" p') [lx] [] pos'] e = (false, eval (.Call (.Name "iter" p') [lx] [] pos') e) :: starEach [] e := by rfl) :
    Ev w A e X Ow Γ (.Call (.Name "_law_cases" p) [.Call (.Name "iter" p') [lx] [] pos'] [] pos) (.int (maskI f)) := .mk fun s c => by
  refine wpAny_Call_NameR ((gl_law_cases w.params).load fe.g hk c.wd ?_ rfl)
  refine callWith_fv (x := _) (r := _) (.fn (fn229 _)) c.wd (by rw [he']; rfl) (by rw [he']; rfl) (wpAny_items_cons (wpb (iter_made fe.g hk' hl c he) fun v s₁ h => ?_) he')
  obtain ⟨I, L, rfl, k₁, hI, hat⟩ := h
  have c₁ := c.keep k₁
  refine wpAny_items_nil ⟨c₁.wd, ?_⟩
  have hIX : I ∉ X := fun h => by obtain ⟨o, ho⟩ := c.xin I h; rw [hI] at ho; cases ho
  have hIK : (KK w.params).lookup I = Option.none := by
    cases q : (KK w.params).lookup I with
    | none => rfl
    | some o => have := c.wd I o q; rw [hI] at this; cases this
  refine wpb (call_cases f (X := I :: X) hd r c₁.tk c₁.wd (fun b hb => ?_) List.mem_cons_self hIK hat fun k c hkc => by rw [Nat.zero_add]; exact hkc) fun v s₂ ⟨i₂, k₂, _⟩ => ⟨k₂.kp k₁ hI, by simp only [Is] at i₂ ⊢; exact i₂⟩
  rcases List.mem_cons.mp hb with rfl | hb
  · obtain ⟨o, ho, _⟩ := hat.it; exact ⟨o, ho⟩
  · exact c₁.xin b hb
end
end Mine

namespace Mine
open PySem PySem.W PyProof.Rows PySem.SeqAt

noncomputable def bodyOf : Stmt → List Stmt
  | .For _ _ b _ _ => b
  | .While _ b _ _ => b
  | _ => []
noncomputable def testOf : Stmt → Expr
  | .While t _ _ _ => t
  | _ => .Constant .none 0 default
noncomputable def jFor : Stmt := ((fBody (top 23)).drop 3).headD (.Pass default)
noncomputable def jWhile : Stmt := ((bodyOf jFor).drop 1).headD (.Pass default)
theorem mid_len (c : Int) : ∀ f : Fm, (midT c f).length ≤ (escT c f).length
  | .v i => Nat.le_refl _
  | .bin amp a b => by
    have ha := mid_len c a
    have hb := mid_len c b
    have h3 : (if amp = true then ampL else [45]).length ≤ (opE amp).length := by revert amp; decide
    simp only [midT, escT, List.length_append]; omega
theorem back_len (c : Int) : ∀ f : Fm, (backT c f).length ≤ (midT c f).length
  | .v i => Nat.le_refl _
  | .bin amp a b => by
    have ha := back_len c a
    have hb := back_len c b
    have h3 : [conC amp].length ≤ (if amp = true then ampL else [45]).length := by revert amp; decide
    simp only [backT, midT, List.length_append]; omega
structure LsOk (ls : List Ln) : Prop where
  len : ls.length = 6
  lt : ∀ l ∈ ls, ∀ j ∈ l.bl, j < ls.length
  three : ∀ l ∈ ls, l.bl.length ≤ 3
  dep : ∀ l ∈ ls, l.f.dep ≤ 6
  steps : Steps ls
theorem cut_facts {ls : List Ln} {b b' : List Nat} {i : Nat} (h : StepAt b b' i) (hi : lnAt ls i = lnAt ls i) (hb : b.length ≤ 3) : ∃ b₀ : List Nat,
    (b₀ = b ∨ (b ≠ [] ∧ b₀ = b.dropLast ∧ eqN (wOf (psOf ls b)) (wOf (psOf ls b')) = false ∧ lessW (wOf (psOf ls b)) (wOf (psOf ls b')) = false)) ∧
    (!eqN (wOf (psOf ls b₀)) (wOf (psOf ls b')) && !lessW (wOf (psOf ls b₀)) (wOf (psOf ls b'))) = false ∧
    ((b' = b₀ ++ [i] ∧ lessW (wOf (psOf ls b₀)) (wOf (psOf ls b')) = true) ∨ (b' = b₀ ∧ lessW (wOf (psOf ls b₀)) (wOf (psOf ls b')) = false)) ∧ b₀.length ≤ 3 := by
  rcases h with ⟨h1, h2⟩ | rfl | ⟨h1, h2⟩
  · have hl : lessW (wOf (psOf ls b)) (wOf (psOf ls b')) = true := by
      rw [h1, psOf_snoc]
      exact less_step (by rw [psOf_len]; omega) (psOf_lt ls b) (ix4_lt _).1
    exact ⟨b, .inl rfl, by rw [hl]; simp, .inl ⟨h1, hl⟩, hb⟩
  · exact ⟨b', .inl rfl, by rw [eqN_self]; rfl, .inr ⟨rfl, less_self _⟩, hb⟩
  · have hne : psOf ls b ≠ [] := fun q => h1 (by have := congrArg List.length q; rw [psOf_len] at this; exact List.length_eq_zero_iff.mp this)
    have hback := back_step (by rw [psOf_len]; exact hb) (psOf_lt ls b) hne
    rw [← psOf_dropLast, ← h2] at hback
    exact ⟨b', .inr ⟨h1, h2, hback.1, hback.2⟩, by rw [eqN_self]; rfl, .inr ⟨rfl, less_self _⟩, by rw [h2]; simp; omega⟩

noncomputable abbrev owJ (aT aA aL : Addr) (t a l : List Dt) : Owns := [(aT, t), (aA, a), (aL, l)]
section
variable {aT aA aL : Addr} {t a l x : List Dt}
theorem setT (h1 : aT ≠ aA) (h2 : aT ≠ aL) : setOw (owJ aT aA aL t a l) aT x = owJ aT aA aL x a l := by
  simp [setOw, owJ, Ne.symm h1, Ne.symm h2]
theorem setA (h1 : aT ≠ aA) (h3 : aA ≠ aL) : setOw (owJ aT aA aL t a l) aA x = owJ aT aA aL t x l := by
  simp [setOw, owJ, h1, Ne.symm h3]
theorem setL (h2 : aT ≠ aL) (h3 : aA ≠ aL) : setOw (owJ aT aA aL t a l) aL x = owJ aT aA aL t a x := by
  simp [setOw, owJ, h2, h3]
end
noncomputable def pageDt (ls : List Ln) : List Dt := (List.range 6).map fun k => .str (S (lineOf ls k))
theorem page_at {ls : List Ln} {i : Nat} {d : Dt} (h : (pageDt ls)[i]? = some d) : i < 6 ∧ d = .str (S (lineOf ls i)) := by
  unfold pageDt at h
  rw [List.getElem?_map, Option.map_eq_some_iff] at h
  obtain ⟨k, hk, rfl⟩ := h
  obtain ⟨h1, h2⟩ := List.getElem?_eq_some_iff.mp hk
  simp at h1 h2
  exact ⟨h1, by rw [h2]⟩
theorem prev_three {ls : List Ln} (ok : LsOk ls) {i : Nat} (hi : i < 6) : (prevBl ls i).length ≤ 3 := by
  unfold prevBl
  split
  · simp
  · exact ok.three _ (lnAt_mem (by rw [ok.len]; omega))

section
variable {w : World} {A : Around} {X : List Addr}
noncomputable abbrev jG (aT aA aL : Addr) : List (Str × Dt) := [("leads", .own aL), ("allowed", .own aA), ("told", .own aT)]
noncomputable abbrev jG2 (aT aA aL : Addr) (ln : List Nat) (W : Ws) : List (Str × Dt) := [("line", .str (S ln)), ("lead", .inst (wsDt (S ln) W)), ("leads", .own aL), ("allowed", .own aA), ("told", .own aT)]
set_option maxHeartbeats 8000000 in
theorem op_judged (ls : List Ln) (ok : LsOk ls) (r : Room 14 A) : OpC w A X (.ref 234) [.lst (pageDt ls)] (.lst (toldDt ls 6)) := .mk fun s vs tk wd x i => by
  obtain ⟨v, rfl, iv⟩ := i.one
  refine call_fn (names := ["page"]) (fn234 _) r tk wd x i rfl rfl (by rfl) (by decide) fun e s₁ he r' hown F => ?_
  have fe : Fe (fScope (top 23)).names e := by subst he; exact Fe.of (fn234 _)
  clear he
  have hk := fe.hk
  have z : sizeLine = 16777216 := rfl
  refine execs_cons' (F.newOwnL hk (ds := [.inst (wsDt (S []) (wsOf []))]) (EvAll.cons (Ev.callCls fe.g (fe.kd _ _ rfl) (gl_Whitespace _) (EvAll.cons Ev.str EvAll.nil) (op_new (l := []) (by simp) (r'.less))) EvAll.nil) (by simp; decide) (fe.loc (.inl rfl)) fun aL s₂ haL hKL F => ?_)
  refine execs_cons' (F.newOwnL hk (ds := [.int 255]) (EvAll.cons Ev.int EvAll.nil) (by simp; decide) (fe.loc (.inl rfl)) fun aA s₃ haA hKA F => ?_)
  refine execs_cons' (F.newOwn hk (fe.loc (.inl rfl)) fun aT s₄ haT hKT F => ?_)
  have n3 : aA ≠ aL := fun q => haA (q ▸ List.mem_cons_self)
  have n1 : aT ≠ aA := fun q => haT (q ▸ List.mem_cons_self)
  have n2 : aT ≠ aL := fun q => haT (q ▸ List.mem_cons_of_mem _ List.mem_cons_self)
  have F := F.norm [("page", .lst (pageDt ls)), ("leads", .own aL), ("allowed", .own aA), ("told", .own aT)] ⟨rfl, rfl, rfl, rfl, trivial⟩
  have e0 : alwDt ls [] = [.int 255] := by
    show [Dt.int (mk8 (allOf ls []) : Nat)] = _
    rw [mk8_all (g := allOf ls []) fun k _ => rfl]; rfl
  have e00 : ldsDt ls (fun _ => S []) [] = [.inst (wsDt (S []) (wsOf []))] := rfl
  have F : Fn w s (ownOf e []) e (aT :: aA :: aL :: outOf e X) (owJ aT aA aL (toldDt ls 0) (alwDt ls []) (ldsDt ls (fun _ => S []) [])) [("page", .lst (pageDt ls)), ("leads", .own aL), ("allowed", .own aA), ("told", .own aT)] s₄ := by
    rw [e0, e00]; exact F
  clear e0 e00
  refine execs_cons' (F.for_ (src := pageDt ls) (EvIt.lst r'.hd (Ev.var hk))
    (fun i Ow Γ => ∃ rs, Ow = owJ aT aA aL (toldDt ls i) (alwDt ls (prevBl ls i)) (ldsDt ls rs (prevBl ls i)) ∧ AllHas (jG aT aA aL) Γ) ⟨fun _ => S [], rfl, ⟨rfl, rfl, rfl, trivial⟩⟩ (fun i d Ow' Γ' wr s' v hd hI _ F hv => ?_) (fun Ow' Γ' s' hI _ F => ?_))
  · obtain ⟨rs, rfl, hΓ⟩ := hI
    have F := F.norm _ hΓ
    obtain ⟨hi, rfl⟩ := page_at hd
    have him : lnAt ls i ∈ ls := lnAt_mem (by rw [ok.len]; exact hi)
    have hb3 := ok.three _ him
    have hdep := ok.dep _ him
    have hp3 := prev_three ok hi
    have ld := lead_of (ps := psOf ls (lnAt ls i).bl) (by rw [psOf_len]; exact hb3) (psOf_lt ls _)
    have hW : wsOf (lineOf ls i) = wOf (psOf ls (lnAt ls i).bl) := by
      unfold lineOf wsOf
      rw [wsGo_app _ _ _ (ld.sp _) (by rw [esc_txt]; exact escT_head _ _)]
      exact ld.ws _
    have htl := txt_len (lnAt ls i).c (lnAt ls i).f
    have h2p : 2 ^ (lnAt ls i).f.dep ≤ 2 ^ 6 := Nat.pow_le_pow_right (by decide) hdep
    have hel := esc_len (txt (lnAt ls i).c (lnAt ls i).f)
    have hll2 : (leadOf (odd i) (psOf ls (lnAt ls i).bl)).length ≤ 9 := by unfold leadOf; split; exact ld.olen; exact ld.len
    have hlen : (lineOf ls i).length ≤ 10000 := by unfold lineOf; rw [List.length_append]; omega
    obtain ⟨b₀, hcut, hstop, hnext, hb₀3⟩ := cut_facts (ls := ls) (ok.steps i (by rw [ok.len]; exact hi)) rfl hp3
    refine wpAny_assign_Name (F.store (x := "line") hk hv (fe.loc (.inl rfl)) rfl fun t₁ F => ?_)
    refine execs_cons' (F.assign (d := .inst (wsDt (S (lineOf ls i)) (wOf (psOf ls (lnAt ls i).bl)))) (Ev.eq (Ev.callCls fe.g (fe.kd _ _ rfl) (gl_Whitespace _) (EvAll.cons (Ev.var hk) EvAll.nil) (op_new (l := lineOf ls i) (by omega) (r'.less))) (by rw [hW])) hk (fe.loc (.inl rfl)) fun t₂ F => ?_)
    have F := F.norm (jG2 aT aA aL (lineOf ls i) (wOf (psOf ls (lnAt ls i).bl))) ⟨rfl, rfl, rfl, rfl, rfl, trivial⟩
    generalize hb : prevBl ls i = b at *
    generalize hT : toldDt ls i = T₀ at *
    have small : ∀ b : List Nat, b.length ≤ 3 → (wOf (psOf ls b)).count.length ≤ 500000 ∧ (wOf (psOf ls b)).b ≤ 500000 := fun b hb => wOf_small (by rw [psOf_len]; exact hb) (psOf_lt ls b)
    generalize hX3 : wr ++ (aT :: aA :: aL :: outOf e X) = X₃ at *
    -- the loop that cuts the stack
    refine execs_join (P := fun t => ∃ rs, Fn w s' (ownOf e (owJ aT aA aL (toldDt ls 0) (alwDt ls []) (ldsDt ls (fun _ => S []) []))) e X₃ (owJ aT aA aL T₀ (alwDt ls b₀) (ldsDt ls rs b₀)) (jG2 aT aA aL (lineOf ls i) (wOf (psOf ls (lnAt ls i).bl))) t) ?_ fun t₃ ⟨rs, F⟩ => ?_
    · have hW3 := small _ hb3
      -- the test, at any height of the stack
      have test : ∀ {cur : List Nat} {rs : Nat → Str} {T : List Dt}, cur.length ≤ 3 →
          EvT w (A.deeper e) e X₃ (owJ aT aA aL T (alwDt ls cur) (ldsDt ls rs cur)) (jG2 aT aA aL (lineOf ls i) (wOf (psOf ls (lnAt ls i).bl))) (testOf jWhile)
          (decide ((1 : Int) < (cur.length + 1 : Nat)) && (!eqN (wOf (psOf ls cur)) (wOf (psOf ls (lnAt ls i).bl)) && (!lessW (wOf (psOf ls cur)) (wOf (psOf ls (lnAt ls i).bl)) && true))) := fun {cur rs T} hc => by
        have hl := lds_len ls rs cur
        have hlast := lds_last ls rs cur
        have top : ∀ {p₁ p₂ p₃ p₄ : Pos} {k : Nat}, Ev w (A.deeper e) e X₃ (owJ aT aA aL T (alwDt ls cur) (ldsDt ls rs cur)) (jG2 aT aA aL (lineOf ls i) (wOf (psOf ls (lnAt ls i).bl))) (.Subscript (.Name "leads" p₁) (.UnaryOp .USub (.Constant (.int 1) k p₂) p₃) p₄) (.inst (wsDt (rs cur.length) (wOf (psOf ls cur)))) :=
          Ev.subOwn (a := aL) (ds := ldsDt ls rs cur) (by simp) (Ev.var hk) (Ev.neg Ev.int) (by rw [hl]; exact neg1_ix _) hlast (by rw [hl]; omega)
        refine EvT.and (EvT.cmp (Op2.gt (i := (cur.length + 1 : Nat)) (j := 1)) (Ev.eq (Ev.lenOwn (a := aL) (ds := ldsDt ls rs cur) fe.g (fe.kd _ _ rfl) (by simp) (Ev.var hk) (by rw [hl]; omega)) (by rw [hl])) Ev.int) fun _ => ?_
        refine EvT.and (EvT.not (EvT.of (Ev.equal (r1 := rs cur.length) (r2 := S (lineOf ls i)) (x := wOf (psOf ls cur)) (y := wOf (psOf ls (lnAt ls i).bl)) (r'.less) top (EvAll.cons (Ev.var hk) EvAll.nil)) OpT.bool)) fun _ => ?_
        refine EvT.and (EvT.not (EvT.of (Ev.less' (r1 := rs cur.length) (r2 := S (lineOf ls i)) (x := wOf (psOf ls cur)) (y := wOf (psOf ls (lnAt ls i).bl)) (small _ hc) hW3 (r'.less) top (EvAll.cons (Ev.var hk) EvAll.nil)) OpT.bool)) fun _ => EvT.andN
      refine F.while_ (fun n Ow Γ => ∃ cur rs, Ow = owJ aT aA aL T₀ (alwDt ls cur) (ldsDt ls rs cur) ∧ AllHas (jG2 aT aA aL (lineOf ls i) (wOf (psOf ls (lnAt ls i).bl))) Γ ∧
        ((n = 0 ∧ cur = b₀) ∨ (n = 1 ∧ cur = b ∧ b ≠ [] ∧ b₀ = b.dropLast ∧ eqN (wOf (psOf ls b)) (wOf (psOf ls (lnAt ls i).bl)) = false ∧ lessW (wOf (psOf ls b)) (wOf (psOf ls (lnAt ls i).bl)) = false)))
        (n := if b₀ = b then 0 else 1) ⟨b, rs, rfl, ⟨rfl, rfl, rfl, rfl, rfl, trivial⟩, ?_⟩ fun n Ow' Γ' t₃ hI F => ?_
      · by_cases q : b₀ = b
        · rw [if_pos q]; exact .inl ⟨rfl, q.symm⟩
        · rw [if_neg q]
          rcases hcut with h | ⟨h1, h2, h3, h4⟩
          · exact absurd h q
          · exact .inr ⟨rfl, rfl, h1, h2, h3, h4⟩
      · obtain ⟨cur, rs, rfl, hΓ, hn⟩ := hI
        have G := F.norm _ hΓ
        rcases hn with ⟨rfl, rfl⟩ | ⟨rfl, rfl, hne, hdl, h3, h4⟩
        · refine wpb ((test hb₀3).h t₃ G.toCx) fun c t₄ ⟨k₄, hc⟩ => ?_
          rw [Bool.and_true] at hc
          rw [hstop, Bool.and_false] at hc
          subst hc
          exact ⟨rfl, rs, G.kp k₄⟩
        · refine wpb ((test hp3).h t₃ G.toCx) fun c t₄ ⟨k₄, hc⟩ => ?_
          have hpos := List.length_pos_iff.mpr hne
          rw [h3, h4] at hc
          have hc : c = true := by rw [hc]; simp; omega
          subst hc
          have G := G.kp k₄
          have hlL := lds_len ls rs cur.dropLast
          have hlA := alw_len ls cur.dropLast
          have hdl3 : cur.dropLast.length ≤ 3 := by simp; omega
          rw [alw_pop ls hne, lds_pop ls rs hne] at G
          refine execs_cons' (G.pop (a := aL) (ds := ldsDt ls rs cur.dropLast) (Ev.var hk) (.tail _ (.tail _ (.head _))) hKL (by rw [hlL, z]; omega) (fun t₅ G => ?_) (hi := fe.inter))
          rw [setL n2 n3] at G
          refine execs_cons' (G.pop (a := aA) (ds := alwDt ls cur.dropLast) (Ev.var hk) (.tail _ (.head _)) hKA (by rw [hlA, z]; omega) (fun t₆ G => ?_) (hi := fe.inter))
          rw [setA n1 n3] at G
          exact execs_nil' ⟨0, _, _, by omega, ⟨cur.dropLast, rs, rfl, ⟨rfl, rfl, rfl, rfl, rfl, trivial⟩, .inl ⟨rfl, hdl.symm⟩⟩, G⟩
    · have hn : (wOf (psOf ls (lnAt ls i).bl)).n = (leadOf (odd i) (psOf ls (lnAt ls i).bl)).length := by
        rw [ld.n]; unfold leadOf; split
        · exact ld.same.symm
        · rfl
      have hcut2 : (lineOf ls i).drop (wOf (psOf ls (lnAt ls i).bl)).n = esc (txt (lnAt ls i).c (lnAt ls i).f) := by
        rw [hn]; unfold lineOf; simp
      have hnle : (wOf (psOf ls (lnAt ls i).bl)).n ≤ (lineOf ls i).length := by rw [hn]; unfold lineOf; simp
      have hW3 := small _ hb3
      have lenS : ∀ l : List Nat, (S l).length = l.length := fun l => by simp [Str.length]
      have hmid := mid_len (lnAt ls i).c (lnAt ls i).f
      rw [← esc_txt] at hmid
      have hbk := back_len (lnAt ls i).c (lnAt ls i).f
      have len1 : ("-" : Str).length = 1 := rfl
      have len2 : ("+" : Str).length = 1 := rfl
      have hr1 : (S (esc (txt (lnAt ls i).c (lnAt ls i).f))).length + ((S (esc (txt (lnAt ls i).c (lnAt ls i).f))).length + 1) * ("-" : Str).length ≤ 16777216 := by rw [lenS, len1]; omega
      have hr2 : (S (midT (lnAt ls i).c (lnAt ls i).f)).length + ((S (midT (lnAt ls i).c (lnAt ls i).f)).length + 1) * ("+" : Str).length ≤ 16777216 := by rw [lenS, len2]; omega
      refine execs_cons' (F.assign (d := .str (S (backT (lnAt ls i).c (lnAt ls i).f))) (Ev.eq (Ev.replace (x := S (midT (lnAt ls i).c (lnAt ls i).f)) (y := "&amp;") (z := "+") (Ev.eq (Ev.replace (x := S (esc (txt (lnAt ls i).c (lnAt ls i).f))) (y := "&gt;") (z := "-")
        (Ev.eq (Ev.slice (d₁ := .str (S (lineOf ls i))) (lo := some ((wOf (psOf ls (lnAt ls i).bl)).n : Nat)) (OpS.strFrom (by rw [lenS, z]; omega)) (Ev.var hk) (EvP.some (Ev.attr 1 (Ev.var hk))) EvP.none) (by rw [slice_from _ _ hnle, hcut2]))
        rfl hr1) (by rw [back1])) rfl hr2) (by rw [back2])) hk (fe.loc (.inl rfl)) fun t₄ F => ?_)
      refine execs_cons' (F.assign (d := .int (maskI (lnAt ls i).f)) (Ev.casesOf fe (fe.kd _ _ rfl) (fe.kd _ _ rfl) (by omega) (r'.less) (Ev.comp1T [] hidS unS fe (by rfl) (EvIt.str r'.hd (Ev.var hk)) (by simp [signsDt]; rw [z]; omega) trivial
        (fun e' X' g' hX d hd => ?_) (fun e' X' g' hX d hd hp => ?_) ?_)) hk (fe.loc (.inl rfl)) fun t₅ F => ?_)
      · simp only [signsDt, List.mem_map] at hd
        obtain ⟨c, hc, rfl⟩ := hd
        have hv := back_vis _ _ c (by simpa using hc)
        exact EvT.eq (EvT.not (EvT.of (Ev.call g'.1 (g'.2 _ rfl) (gl_in_table_b1 _) (.fn (fn112 _)) (EvAll.cons (Ev.var g'.1.k) EvAll.nil) (op_b1 hv (r'.less))) OpT.bool)) (by simp [hidS])
      · simp only [signsDt, List.mem_map] at hd
        obtain ⟨c, hc, rfl⟩ := hd
        have hv := vis_of (back_vis _ _ c (by simpa using hc)) (by simpa [hidS] using hp)
        exact Ev.eq (Ev.call g'.1 (g'.2 _ rfl) (gl_map_table_b3 _) (.fn (fn158 _)) (EvAll.cons (Ev.var g'.1.k) EvAll.nil) (op_b3 hv (r'.less))) (by simp [unS])
      · rw [← back_canon (lnAt ls i).c (lnAt ls i).f]
        simp only [signsDt, List.filter_map, List.map_map]
        congr 1
      · rw [maskI_eq] at F
        have F := F.norm [("cases", .int (mk8 (lnAt ls i).f.ev : Nat)), ("lead", .inst (wsDt (S (lineOf ls i)) (wOf (psOf ls (lnAt ls i).bl)))), ("leads", .own aL), ("allowed", .own aA), ("told", .own aT)] ⟨rfl, rfl, rfl, rfl, rfl, trivial⟩
        have hTl : T₀.length = i := by rw [← hT]; exact told_len ls i
        refine execs_join (P := fun t => ∃ rs, Fn w s' (ownOf e (owJ aT aA aL (toldDt ls 0) (alwDt ls []) (ldsDt ls (fun _ => S []) []))) e X₃ (owJ aT aA aL T₀ (alwDt ls (lnAt ls i).bl) (ldsDt ls rs (lnAt ls i).bl)) [("cases", .int (mk8 (lnAt ls i).f.ev : Nat)), ("leads", .own aL), ("allowed", .own aA), ("told", .own aT)] t) ?_ fun t₆ ⟨rs, F⟩ => ?_
        · have hl := lds_len ls rs b₀
          have hla := alw_len ls b₀
          have hlast := lds_last ls rs b₀
          have halast := alw_last ls b₀
          refine F.if_ (EvT.of (Ev.less' (r1 := rs b₀.length) (r2 := S (lineOf ls i)) (x := wOf (psOf ls b₀)) (y := wOf (psOf ls (lnAt ls i).bl)) (small _ hb₀3) hW3 (r'.less)
            (Ev.subOwn (a := aL) (ds := ldsDt ls rs b₀) (.tail _ (.tail _ (.head _))) (Ev.var hk) (Ev.neg Ev.int) (by rw [hl]; exact neg1_ix _) hlast (by rw [hl]; omega)) (EvAll.cons (Ev.var hk) EvAll.nil)) OpT.bool) (fun hlt t₆ F => ?_) fun hlt t₆ F => ?_
          · rcases hnext with ⟨hbl, _⟩ | ⟨_, h⟩
            · refine execs_cons' (F.append (a := aL) (ds := ldsDt ls rs b₀) (Ev.var hk) (.tail _ (.tail _ (.head _))) hKL (Ev.var hk) (by rw [hl, z]; omega) (fun t₇ F => ?_) (hi := fe.inter))
              rw [setL n2 n3] at F
              refine execs_cons' (F.append (a := aA) (ds := alwDt ls b₀) (d := .int (mk8 (fun c => allOf ls b₀ c && (lnAt ls i).f.ev c) : Nat)) (Ev.var hk) (.tail _ (.head _)) hKA (Ev.eq (Ev.bin Op2.and (Ev.subOwn (a := aA) (ds := alwDt ls b₀) (.tail _ (.head _)) (Ev.var hk) (Ev.neg Ev.int) (by rw [hla]; exact neg1_ix _) halast (by rw [hla]; omega)) (Ev.var hk)) (by rw [mk8_and])) (by rw [hla, z]; omega) (fun t₈ F => ?_) (hi := fe.inter))
              rw [setA n1 n3, ← alw_push] at F
              refine execs_nil' ⟨rfl, fun j => if j = b₀.length + 1 then S (lineOf ls i) else rs j, ?_⟩
              have e1 := lds_push ls rs (S (lineOf ls i)) b₀ i
              rw [← hbl] at e1
              rw [← e1, ← hbl] at F
              exact F.norm _ ⟨rfl, rfl, rfl, rfl, trivial⟩
            · rw [h] at hlt; cases hlt
          · rcases hnext with ⟨_, h⟩ | ⟨hbl, _⟩
            · rw [h] at hlt; cases hlt
            · refine execs_nil' ⟨rfl, rs, ?_⟩
              rw [hbl]
              exact F.norm _ ⟨rfl, rfl, rfl, rfl, trivial⟩
        · have hl := lds_len ls rs (lnAt ls i).bl
          have hla := alw_len ls (lnAt ls i).bl
          have halast := alw_last ls (lnAt ls i).bl
          have h7 := Fm.ev7 (lnAt ls i).f
          have ha7 := allOf7 ls (lnAt ls i).bl
          have topA : ∀ {p₁ p₂ p₃ p₄ : Pos} {k : Nat}, Ev w (A.deeper e) e X₃ (owJ aT aA aL T₀ (alwDt ls (lnAt ls i).bl) (ldsDt ls rs (lnAt ls i).bl)) [("cases", .int (mk8 (lnAt ls i).f.ev : Nat)), ("leads", .own aL), ("allowed", .own aA), ("told", .own aT)] (.Subscript (.Name "allowed" p₁) (.UnaryOp .USub (.Constant (.int 1) k p₂) p₃) p₄) (.int (mk8 (allOf ls (lnAt ls i).bl) : Nat)) :=
            Ev.subOwn (a := aA) (ds := alwDt ls (lnAt ls i).bl) (.tail _ (.head _)) (Ev.var hk) (Ev.neg Ev.int) (by rw [hla]; exact neg1_ix _) halast (by rw [hla]; omega)
          refine execs_cons' (F.append (a := aT) (ds := T₀) (d := rowDt ls i) (Ev.var hk) (.head _) hKT (Ev.lst (EvAll.cons (Ev.eq (Ev.bin (Op2.sub (i := ((lnAt ls i).bl.length + 1 : Nat)) (j := 1)) (Ev.eq (Ev.lenOwn (a := aL) (ds := ldsDt ls rs (lnAt ls i).bl) fe.g (fe.kd _ _ rfl) (.tail _ (.tail _ (.head _))) (Ev.var hk) (by rw [hl]; omega)) (by rw [hl])) Ev.int) (by simp))
            (EvAll.cons (Ev.call fe.g (fe.kd _ _ rfl) (gl_Int2AP _) (.fn (fn94 _)) (EvAll.cons (Ev.var hk) EvAll.nil) (op_int2ap (mk8_big h7) (mk8_lt _) (r'.less)))
            (EvAll.cons (Ev.call fe.g (fe.kd _ _ rfl) (gl_Int2AP _) (.fn (fn94 _)) (EvAll.cons topA EvAll.nil) (op_int2ap (mk8_big ha7) (mk8_lt _) (r'.less)))
            (EvAll.cons (Ev.call fe.g (fe.kd _ _ rfl) (gl_Int2AP _) (.fn (fn94 _)) (EvAll.cons (Ev.eq (Ev.bin Op2.or (Ev.eq (Ev.bin Op2.sub Ev.int topA) (by rw [mk8_not])) (Ev.var hk)) (by rw [mk8_or])) EvAll.nil) (op_int2ap (mk8_big (by simp [h7])) (mk8_lt _) (r'.less)))
              EvAll.nil)))) (by simp; decide)) (by rw [hTl, z]; omega) (fun t₇ F => ?_) (hi := fe.inter))
          rw [setT n1 n2] at F
          refine execs_nil' ⟨_, [("cases", .int (mk8 (lnAt ls i).f.ev : Nat)), ("leads", .own aL), ("allowed", .own aA), ("told", .own aT)], ⟨rs, rfl, ⟨rfl, rfl, rfl, trivial⟩⟩, rfl, ?_⟩
          rw [hX3, told_succ, hT]
          exact F
  · obtain ⟨rs, rfl, hΓ⟩ := hI
    have F := F.norm _ hΓ
    refine execs_cons' (F.ret (d := .own aT) (Ev.var hk) fun v s₅ F iv => ⟨F.kept hown, ?_⟩)
    have hl : (pageDt ls).length = 6 := by simp [pageDt]
    rw [hl] at F
    exact Is.ofOwn F (ds := toldDt ls 6) (by simp) iv (fun b hb => by simp [outOf, hb]) fun h => haT (by simp [outOf, h])
end
end Mine

namespace Mine
open PySem PySem.W PyProof.Rows

/-! ## a comprehension with one name in a cell of its own -/
structure CompOkK (scope : Scope) (e : Env) (x : Str) : Prop where
  kd : scope.kind = .function
  nd : (scope.names.map (·.1)).Nodup
  fr : ∀ x ∈ scope.names, x.2 = .free → ∃ c, e.cells.lookup x.1 = some c
  cf : ∀ n acc, cellsFrom n scope.names acc = (x, n) :: acc
  pc : ∀ h : Heap, pushCells h scope.names = h.push { cls := .type "cell", data := .cell none }
  nx : (x, NameKind.free) ∉ scope.names
theorem closure_isK {scope : Scope} {e : Env} {x : Str} (ok : CompOkK scope e x) : closureFor scope e = pure (clOf scope e) := by
  unfold closureFor clOf
  dsimp only
  rw [closure_go (e := e) _ (fun n k cs => rfl) scope.names [] ok.fr]
  rfl
theorem clOf_subK {scope : Scope} {e : Env} {x : Str} (ok : CompOkK scope e x) {q : Str × Addr} (h : q ∈ clOf scope e) : q ∈ e.cells := by
  rcases clOf_go scope.names [] _ h with h | ⟨h1, h2⟩
  · cases h
  · obtain ⟨c, hc⟩ := ok.fr _ h1 rfl
    rw [hc] at h2
    obtain ⟨a, b⟩ := q
    dsimp only [Option.getD_some] at h2 hc ⊢; subst h2
    exact mem_of_lookup hc
noncomputable abbrev cEnvK (scope : Scope) (e : Env) (x : Str) (C K : Addr) : Env := compEnvC scope ((x, K) :: clOf scope e) C e

section
variable {w : World} {A : Around} {s₀ : Shared} {Mu : List Addr} {e : Env} {X : List Addr} {Ow : Owns} {Γ : List (Str × Dt)} {s : Shared}
theorem newEnvK {scope : Scope} {x : Str} {globals : Addr} {cl : List (Str × Addr)} {qual : Str} {builtins : Addr} {Q : Env → Shared → Prop} {E : Value → Shared → Prop} (cf : ∀ n acc, cellsFrom n scope.names acc = (x, n) :: acc) (pc : ∀ h : Heap, pushCells h scope.names = h.push { cls := .type "cell", data := .cell none })
    (hQ : Q { scope, locals := s.heap.objs.size, globals, cells := (x, s.heap.objs.size + 1) :: cl, qual, func := none, code := e.code, frame := e.frame, builtins := e.builtins }
      { s with heap := (s.heap.push { cls := .type "dict", data := .dict #[] }).push { cls := .type "cell", data := .cell none } }) :
    wpAny (model pw w) A (newFunctionEnv scope globals cl [] qual none .none (some e) builtins) Q E s := by
  simp only [newFunctionEnv, Option.isSome_some, if_true]
  refine wpAny_bind (wpAny_alloc ?_)
  refine wpAny_bind (wpAny_layCells _ (fun name kind cells => by cases hkc : kind == NameKind.cell <;> simp [hkc]) _ _ _ _ ?_)
  rw [cf, pc]
  rw [show ({ s with heap := s.heap.push { cls := .type "dict", data := .dict #[] } } : Shared).heap.objs.size = s.heap.objs.size + 1 from Heap.size_push ..]
  exact wpAny_bind (wpAny_pure (wpAny_pure hQ))

/-- the comprehension's turns, and what they leave -/
theorem comp_coreK {x : Str} {elt target iter : Expr} {ifs : List Expr} {scope : Scope} {pos : Pos} {src : List Dt} {own : Bool} {Γc : List (Str × Dt)} {Γd : Dt → List (Str × Dt)} {p : Dt → Bool} {g : Dt → Dt} {s s₂ : Shared} {it : Value}
    {RR : Value → Addr → Result → Shared → Prop} {E : Value → Shared → Prop}
    (ok : CompOkK scope e x) (cx : Cx w e X Ow Γ s) (md : Made w A X target src own s it s₂) (hlen : src.length ≤ sizeLine)
    (hc : ∀ q ∈ Γc, q ∈ Γ ∧ scope.names.lookup q.1 = some .free ∧ e.kindOf q.1 ≠ some .local)
    (bind : ∀ C K X', (∀ a ∈ X, a ∈ X') → ∀ d ∈ src, ∀ s' v, Fs w (cEnvK scope e x C K) X' Ow Γc s' → Is s'.heap X' d v →
      wpAny (model pw w) A (assign target (cEnvK scope e x C K) v) (fun _ s₂ => Fs w (cEnvK scope e x C K) X' Ow (Γd d ++ Γc) s₂ ∧ Kw [C, K] s' s₂) Bot s')
    (tests : ∀ C K X', (∀ a ∈ X, a ∈ X') → ∀ d ∈ src, ∀ s', Cx w (cEnvK scope e x C K) X' Ow (Γd d ++ Γc) s' →
      wpAny (model pw w) A (forIn ifs true fun c r => if r = true then do let ok ← isTrue c (cEnvK scope e x C K) (eval c (cEnvK scope e x C K)); pure (ForInStep.yield ok) else pure (ForInStep.yield r)) (fun ok s₃ => Kp s' s₃ ∧ ok = p d) Bot s')
    (elts : ∀ C K X', (∀ a ∈ X, a ∈ X') → ∀ d ∈ src, p d = true → Ev w A (cEnvK scope e x C K) X' Ow (Γd d ++ Γc) elt (g d))
    (hRR : ∀ D C s' m', s₂.heap.get? D = none → s₂.heap.get? C = none → D ≠ C → s'.heap.Ns C m' → Is s'.heap (C :: X) (.lst ((src.filter p).map g)) (.ref D) → (∃ h tk, s' = { s₂ with heap := h, toks := tk }) → s₂.toks ≤ s'.toks →
      (∀ b o, s.heap.get? b = some o → s'.heap.get? b = some o) → RR (.ref D) C (.ok .next) s') :
    wpAny (model pw w) A (newList []) (fun acc s₃ => wpAny (model pw w) A (newFunctionEnv scope e.globals (clOf scope e) [] e.qual none .none (some e)) (fun cenv s₄ =>
      codeAny (model pw w) A (.compStart (.ListComp elt [⟨target, iter, ifs, 0⟩] scope pos) 0 it acc { cenv with scope := relabel scope e }) (RR acc cenv.locals) s₄) E s₃) E s₂ := by
  obtain ⟨k, I, fp, wr, rfl, hw, _, hY⟩ := md
  refine wpAny_newObj_type (newEnvK ok.cf ok.pc ?_)
  dsimp only
  generalize hD : s₂.heap.objs.size = D
  generalize hH2 : s₂.heap.push { cls := .type "list", dict := none, data := .seq ([] : List Value).toArray } = H2
  generalize hC : H2.objs.size = C
  generalize hK : C + 1 = K
  generalize hh₁ : (H2.push { cls := .type "dict", data := .dict #[] }).push { cls := .type "cell", data := .cell none } = h₁
  have hCv : C = D + 1 := by rw [← hC, ← hH2, Heap.size_push, hD]
  have noneAt : ∀ a, D ≤ a → s₂.heap.get? a = none := fun a ha => by
    cases q : s₂.heap.get? a with
    | none => rfl
    | some o => exact absurd (Heap.lt_size q) (Nat.not_lt.mpr (hD ▸ ha))
  have hDn := noneAt D (Nat.le_refl _)
  have hCn := noneAt C (by rw [hCv]; exact Nat.le_succ _)
  have hKn := noneAt K (by rw [← hK, hCv]; omega)
  have hDC : D ≠ C := by rw [hCv]; exact Nat.ne_of_lt (Nat.lt_succ_self _)
  have hDK : D ≠ K := by rw [← hK, hCv]; omega
  have hKC : K ≠ C := by rw [← hK]; exact Nat.ne_of_gt (Nat.lt_succ_self _)
  have up₁ : ∀ b o, s₂.heap.get? b = some o → h₁.get? b = some o := fun b o ho => by
    rw [← hh₁, ← hH2]; exact Heap.get?_push_of_some _ (Heap.get?_push_of_some _ (Heap.get?_push_of_some _ ho))
  have hacc : h₁.PlainList D #[] := ⟨0, by
    rw [← hh₁]
    refine Heap.get?_push_of_some _ (Heap.get?_push_of_some _ ?_)
    rw [← hH2, ← hD]; exact Heap.get?_push_size _ rfl⟩
  have hns₁ : h₁.Ns C (fun _ => none) := by
    rw [← hh₁]
    exact ⟨_, #[], 0, Heap.get?_push_of_some _ (by rw [← hC]; exact Heap.get?_push_size _ rfl), rfl, fun e he => absurd he (by simp), fun _ => rfl⟩
  have hcell : h₁.IsCell K none := by
    rw [← hh₁]
    refine ⟨{ cls := .type "cell", data := .cell none }, ?_, rfl⟩
    have hs : (H2.push { cls := .type "dict", data := .dict #[] }).objs.size = K := by rw [Heap.size_push, hC, hK]
    rw [← hs]; exact Heap.get?_push_size _ rfl
  obtain ⟨St, Mid, W, st⟩ := hY [K, C, D] (fun b hb => by
    rcases List.mem_cons.mp hb with rfl | hb
    · exact hKn
    · rcases List.mem_cons.mp hb with rfl | hb
      · exact hCn
      · rw [List.mem_singleton.mp hb]; exact hDn)
  have hfpn : ∀ b ∈ fp, b ≠ C ∧ b ≠ D ∧ b ≠ K := fun b hb => by
    obtain ⟨o, ho⟩ := W.live 0 _ st b hb
    exact ⟨fun q => (by rw [q, hCn] at ho; cases ho), fun q => (by rw [q, hDn] at ho; cases ho), fun q => (by rw [q, hKn] at ho; cases ho)⟩
  have cxs : ∀ {s' : Shared}, True := trivial
  let X' := wr ++ ([K, C, D] ++ X)
  have subX : ∀ a ∈ X, a ∈ X' := fun a ha => List.mem_append_right _ (List.mem_append_right _ ha)
  have hKX : K ∈ X' := List.mem_append_right _ (List.mem_append_left _ (List.mem_cons_self))
  have hCX : C ∈ X' := List.mem_append_right _ (List.mem_append_left _ (List.mem_cons_of_mem _ List.mem_cons_self))
  have hDX : D ∈ X' := List.mem_append_right _ (List.mem_append_left _ (List.mem_cons_of_mem _ (List.mem_cons_of_mem _ List.mem_cons_self)))
  have oldX : ∀ b o, b ∉ X → s.heap.get? b = some o → b ∉ X' := fun b o hb ho hm => by
    rcases List.mem_append.mp hm with hm | hm
    · rw [hw b hm] at ho; cases ho
    · rcases List.mem_append.mp hm with hm | hm
      · have h2 := k.ext b o ho
        rcases List.mem_cons.mp hm with rfl | hm
        · rw [hKn] at h2; cases h2
        · rcases List.mem_cons.mp hm with rfl | hm
          · rw [hCn] at h2; cases h2
          · rw [List.mem_singleton.mp hm, hDn] at h2; cases h2
      · exact hb hm
  have up : ∀ b o, s.heap.get? b = some o → h₁.get? b = some o := fun b o ho => up₁ b o (k.ext b o ho)
  have st₁ : St 0 h₁ := W.frame _ _ _ st fun b o _ ho => up₁ b o ho
  have out : ∀ b o, b ∉ X → s.heap.get? b = some o → h₁.get? b = some o ∧ b ∉ X' := fun b o hb ho => ⟨up b o ho, oldX b o hb ho⟩
  have sOld : ∀ {b : Addr}, (b = C ∨ b = D ∨ b ∈ wr ∨ b = K) → s.heap.get? b = none := fun {b} h => by
    rcases h with rfl | rfl | h | rfl
    · exact none_back k hCn
    · exact none_back k hDn
    · exact hw b h
    · exact none_back k hKn
  have cellsE : ∀ q ∈ (cEnvK scope e x C K).cells, q.2 = K ∨ q ∈ e.cells := fun q hq => by
    rcases List.mem_cons.mp hq with rfl | hq
    · exact .inl rfl
    · exact .inr (clOf_subK ok hq)
  have kno : ∀ {b : Addr}, s.heap.get? b = none → (KK w.params).lookup b = none := fun {b} h => by
    cases q : (KK w.params).lookup b with
    | none => rfl
    | some o => rw [cx.wd b o q] at h; cases h
  have G0 : ∀ (tk : Nat), s₂.toks ≤ tk → Fs w (cEnvK scope e x C K) X' Ow Γc { s₂ with heap := h₁, toks := tk }   := fun tk htk => by
    refine { tk := Nat.lt_of_lt_of_le (Nat.lt_of_lt_of_le cx.tk k.tk) htk, wd := fun a o ho => up a o (cx.wd a o ho), xin := fun a ha => ?_, ow := fun q hq => ?_, vars := fun q hq => ?_, cl := fun q hq => ?_, cx := fun q hq => (by rcases cellsE q hq with h | h; exact h ▸ hKX; exact subX _ (cx.cx q h)), ap := .cons (fun q hq z => by have h2 := cx.cx q (clOf_subK ok hq); obtain ⟨o, ho⟩ := cx.xin _ h2; dsimp only at z; rw [← z, sOld (.inr (.inr (.inr rfl)))] at ho; cases ho) (pairwise_of_keys cx.ap (fun q hq => clOf_subK ok hq) (clOf_keys scope.names [] ok.nd (by simp) (by simp))), wc := fun q hq => (by rcases cellsE q hq with h | h; exact h ▸ kno (sOld (.inr (.inr (.inr rfl)))); exact cx.wc q h), ns := ⟨_, hns₁⟩, lx := hCX, wl := kno (sOld (.inl rfl)) }
    · rcases List.mem_append.mp ha with ha | ha
      · obtain ⟨o, ho⟩ := W.live 0 _ st₁ a (W.sub a ha); exact ⟨o, ho⟩
      · rcases List.mem_append.mp ha with ha | ha
        · rcases List.mem_cons.mp ha with rfl | ha
          · obtain ⟨o, ho, _⟩ := hcell; exact ⟨o, ho⟩
          · rcases List.mem_cons.mp ha with rfl | ha
            · obtain ⟨o, _, _, ho, _⟩ := hns₁; exact ⟨o, ho⟩
            · rw [List.mem_singleton.mp ha]; obtain ⟨n, ho⟩ := hacc; exact ⟨_, ho⟩
        · obtain ⟨o, ho⟩ := cx.xin a ha; exact ⟨o, up a o ho⟩
    · obtain ⟨a, vs, b, c⟩ := cx.ow q hq
      exact ⟨subX _ a, vs, b.at fun o ho => up _ o ho, c.ext out⟩
    · obtain ⟨h1, h2, h3⟩ := hc q hq
      obtain ⟨v, hv, hi⟩ := cx.vars q h1
      refine ⟨v, ?_, hi.ext out⟩
      rcases hv with ⟨a, _⟩ | ⟨a, b, c, hcl, hcc⟩
      · exact absurd a h3
      · refine .inr ⟨?_, b, c, ?_, hcc.keeps up⟩
        · exact relabel_free h2
        · have hne : (q.1 == x) = false := by
            rw [beq_eq_false_iff_ne]
            intro z
            exact ok.nx (z ▸ mem_of_lookup h2)
          show List.lookup q.1 ((x, K) :: clOf scope e) = some c
          rw [List.lookup_cons, hne]
          exact clOf_lookup (mem_of_lookup h2) hcl
    · rcases cellsE q hq with h | h
      · exact ⟨none, h ▸ hcell⟩
      · obtain ⟨v, hv⟩ := cx.cl q h
        exact ⟨v, hv.keeps up⟩
  have loop : ∀ s₃ : Shared, (∃ tk, s₂.toks ≤ tk ∧ s₃ = { s₂ with heap := h₁, toks := tk }) →
      codeAny (model pw w) A (.compLoop (.ListComp elt [⟨target, iter, ifs, 0⟩] scope pos) 0 (.ref I) (.ref D) (cEnvK scope e x C K)) (RR (.ref D) C) s₃ := by
    rintro s₃ ⟨tk, htk, rfl⟩
    refine codeAny_loop rfl (fun n s' => ∃ i ys, n = src.length + 1 - i ∧ i ≤ src.length ∧ St i s'.heap ∧ s'.heap.PlainList D (List.toArray ys) ∧ IsAll s'.heap X' (((src.take i).filter p).map g) ys ∧ Fs w (cEnvK scope e x C K) X' Ow Γc s' ∧
      s₂.toks ≤ s'.toks ∧ (∃ h tk, s' = { s₂ with heap := h, toks := tk }) ∧ ∀ b o, b ≠ C → b ≠ D → b ≠ K → b ∉ wr → s₂.heap.get? b = some o → s'.heap.get? b = some o) (fun n s' hI => ?_) (src.length + 1)
      ⟨0, [], by simp, Nat.zero_le _, st₁, hacc, by simp [IsAll], G0 tk htk, htk, ⟨_, _, rfl⟩, fun b o _ _ _ _ ho => up₁ b o ho⟩
    obtain ⟨i, ys, rfl, hi, st', acc', ys', G, tks, same', kk⟩ := hI
    show wpAny _ A ((compTurn (.ListComp elt [⟨target, iter, ifs, 0⟩] scope pos) 0 (.ref I) (.ref D) (cEnvK scope e x C K)).onRaise (fun xx => do noteFrame xx (cEnvK scope e x C K); theTreesLotGoes xx)) _ _ s'
    refine wpAny_noted ?_
    rw [compTurn_list]
    refine wpAny_bind (wpAny_standAt (wpAny_bind ?_))
    have wrC : C ∉ wr := fun h => (hfpn C (W.sub C h)).1 rfl
    have wrD : D ∉ wr := fun h => (hfpn D (W.sub D h)).2.1 rfl
    have wrK : K ∉ wr := fun h => (hfpn K (W.sub K h)).2.2 rfl
    have wne : ∀ b ∈ wr, b ≠ (cEnvK scope e x C K).locals ∧ (∀ q ∈ (cEnvK scope e x C K).cells, b ≠ q.2) ∧ (∀ q ∈ Ow, b ≠ q.1) ∧ (KK w.params).lookup b = none := fun b hb => by
      have hn := hw b hb
      refine ⟨fun q => wrC (by have q' : b = C := q; rw [← q']; exact hb), fun q hq z => ?_, fun q hq z => ?_, kno hn⟩
      · rcases cellsE q hq with h | h
        · exact wrK (by rw [← h, ← z]; exact hb)
        · obtain ⟨v, o, ho, _⟩ := cx.cl q h; rw [← z] at ho; exact not_old hn ho
      · obtain ⟨_, vs, ⟨n, ho⟩, _⟩ := cx.ow q hq; rw [← z] at ho; exact not_old hn ho
    by_cases hlt : i < src.length
    · have hd : src[i]? = some src[i] := List.getElem?_eq_getElem hlt
      have hmem : src[i] ∈ src := List.getElem_mem hlt
      refine wpb (W.item i _ s' hd st' G.xin) fun r s₁' h => ?_
      obtain ⟨v, rfl, hv, st₁', kw₁⟩ := h
      refine wpAny_bind (wpb (W.go i s₁' v st₁') fun _ s₂' h => ?_)
      obtain ⟨kw₂, st₂'⟩ := h
      have kw := kw₁.trans kw₂
      have G₂ : Fs w (cEnvK scope e x C K) X' Ow Γc s₂' := Fs.kw (X := [K, C, D] ++ X) (fp := fp) (I := I) (src := src) (St := St) (i := i) G wne kw fun b hb => W.live _ _ st₂' b (W.sub b hb)
      have hv₂ : Is s₂'.heap X' src[i] v := hv.ext fun b o hb ho => ⟨kw₂.keep b o (fun hm => hb (List.mem_append_left _ hm)) ho, hb⟩
      have outw : ∀ b o, b ∉ X' → s'.heap.get? b = some o → s₂'.heap.get? b = some o ∧ b ∉ X' := fun b o hb ho => ⟨kw.keep b o (fun hm => hb (List.mem_append_left _ hm)) ho, hb⟩
      refine wpAny_bind (wpb (bind C K X' subX _ hmem s₂' v G₂ hv₂) fun _ s₃' h => ?_)
      obtain ⟨G₃, kb⟩ := h
      have outb : ∀ b o, b ∉ X' → s₂'.heap.get? b = some o → s₃'.heap.get? b = some o ∧ b ∉ X' := fun b o hb ho => ⟨kb.keep b o (by simp only [List.mem_cons, List.not_mem_nil, or_false]; rintro (rfl | rfl); exact hb hCX; exact hb hKX) ho, hb⟩
      have kbD : ∀ o, s₂'.heap.get? D = some o → s₃'.heap.get? D = some o := fun o ho => kb.keep D o (by simp only [List.mem_cons, List.not_mem_nil, or_false, not_or]; exact ⟨hDC, hDK⟩) ho
      have fpC : ∀ b ∈ fp, b ∉ [C, K] := fun b hb => by simp only [List.mem_cons, List.not_mem_nil, or_false, not_or]; exact ⟨(hfpn b hb).1, (hfpn b hb).2.2⟩
      have st₃' : St (i + 1) s₃'.heap := W.frame _ _ _ st₂' fun b o hb ho => kb.keep b o (by
        rcases hb with hb | hb
        · simp only [List.mem_cons, List.not_mem_nil, or_false]; rintro (rfl | rfl)
          · exact hb hCX
          · exact hb hKX
        · exact fpC b hb) ho
      have acc₃ : s₃'.heap.PlainList D (List.toArray ys) := (acc'.at fun o ho => kw.keep D o wrD ho).at kbD
      have ys₃ : IsAll s₃'.heap X' (((src.take i).filter p).map g) ys := (ys'.ext outw).ext outb
      have kk₃ : ∀ b o, b ≠ C → b ≠ D → b ≠ K → b ∉ wr → s₂.heap.get? b = some o → s₃'.heap.get? b = some o := fun b o h1 h2 hK3 h3 ho => kb.keep b o (by simp only [List.mem_cons, List.not_mem_nil, or_false, not_or]; exact ⟨h1, hK3⟩) (kw.keep b o h3 (kk b o h1 h2 hK3 h3 ho))
      have tks₃ : s₂.toks ≤ s₃'.toks := Nat.le_trans tks (Nat.le_trans kw.tk kb.tk)
      have same₃ : ∃ h tk, s₃' = { s₂ with heap := h, toks := tk } := by
        obtain ⟨h, t, e1⟩ := same'
        obtain ⟨h2, t2, e2⟩ := kw.same
        obtain ⟨h3, t3, e3⟩ := kb.same
        exact ⟨h3, t3, by rw [e3, e2, e1]⟩
      refine wpAny_bind (wpb (tests C K X' subX _ hmem s₃' G₃.toCx) fun okv s₄' h => ?_)
      obtain ⟨k₄, rfl⟩ := h
      have takeS : (src.take (i + 1)).filter p = (src.take i).filter p ++ (if p src[i] then [src[i]] else []) := by
        rw [List.take_add_one, hd]
        simp only [Option.toList_some, List.filter_append, List.filter_cons, List.filter_nil]
      have same₄ : ∀ {s₅ : Shared}, Kp s₃' s₅ → ∃ h tk, s₅ = { s₂ with heap := h, toks := tk } := fun {s₅} k => by
        obtain ⟨h, t, e1⟩ := same₃
        obtain ⟨h2, t2, e2, _⟩ := k.k
        exact ⟨h2, t2, by rw [e2, e1]⟩
      cases hp : p src[i] with
      | false =>
        simp only [Bool.false_eq_true, if_false]
        refine wpAny_pure ⟨rfl, src.length + 1 - (i + 1), by omega, i + 1, ys, rfl, hlt, W.frame _ _ _ st₃' fun b o _ ho => k₄.ext b o ho, acc₃.at fun o ho => k₄.ext _ o ho, ?_, (G₃.kp k₄).weaken (fun q hq => List.mem_append_right _ hq), Nat.le_trans tks₃ k₄.tk, same₄ k₄, fun b o h1 h2 hK3 h3 ho => k₄.ext b o (kk₃ b o h1 h2 hK3 h3 ho)⟩
        rw [takeS, hp]
        simpa using ys₃.keep k₄.ext
      | true =>
        simp only [if_true]
        refine wpAny_bind (wpAny_bind ((elts C K X' subX _ hmem hp).use (G₃.toCx.keep k₄) fun y s₅' k₅ c₅ hy => ?_))
        have k₄₅ := k₄.trans k₅
        have hys : (List.toArray ys).size ≤ sizeLine := by
          have e1 := ys₃.length
          have e2 : ((src.take i).filter p).length ≤ (src.take i).length := List.length_filter_le _ _
          have e3 : (src.take i).length ≤ src.length := by rw [List.length_take]; omega
          rw [List.size_toArray, e1, List.length_map]; omega
        refine wpAny_bind (wpAny_list_append_plain (hsz := hys) (acc₃.at fun o ho => k₄₅.ext _ o ho) fun h₅ hl₅ hs₅ => ?_)
        refine wpAny_pure (wpAny_pure ⟨rfl, src.length + 1 - (i + 1), by omega, i + 1, ys ++ [y], rfl, hlt, W.frame _ _ _ st₃' fun b o hb ho => ?_, by simpa using hl₅, ?_, ?_, Nat.le_trans tks₃ k₄₅.tk, ?_, fun b o h1 h2 hK3 h3 ho => SameBut.back hs₅ h2 (k₄₅.ext b o (kk₃ b o h1 h2 hK3 h3 ho))⟩)
        · refine SameBut.back hs₅ (fun q => ?_) (k₄₅.ext b o ho)
          rcases hb with hb | hb
          · exact hb (by rw [q]; exact hDX)
          · exact (hfpn b hb).2.1 q
        · rw [takeS, hp]
          simp only [if_true, List.map_append, List.map_cons, List.map_nil]
          have outD : ∀ b o, b ∉ X' → s₅'.heap.get? b = some o → h₅.get? b = some o ∧ b ∉ X' := fun b o hb ho => ⟨SameBut.back hs₅ (fun q => hb (q ▸ hDX)) ho, hb⟩
          refine IsAll.append ((ys₃.keep k₄₅.ext).ext outD) ?_
          simp only [IsAll]
          exact ⟨y, [], rfl, hy.ext outD, rfl⟩
        · have G₅ := (G₃.kp k₄₅).weaken (Γ' := Γc) (fun q hq => List.mem_append_right _ hq)
          have upD : ∀ b o, b ≠ D → s₅'.heap.get? b = some o → h₅.get? b = some o := fun b o hb ho => SameBut.back hs₅ hb ho
          have oldD : ∀ {b : Addr}, b = D → s.heap.get? b = none := fun {b} q => sOld (.inr (.inl q))
          have outD : ∀ b o, b ∉ X' → s₅'.heap.get? b = some o → h₅.get? b = some o ∧ b ∉ X' := fun b o hb ho => ⟨upD b o (fun q => hb (q ▸ hDX)) ho, hb⟩
          have cellD : ∀ q ∈ (cEnvK scope e x C K).cells, q.2 ≠ D := fun q hq z => by
            rcases cellsE q hq with h | h
            · exact hDK (z.symm.trans h)
            · obtain ⟨v, o, ho, _⟩ := cx.cl q h; rw [z] at ho; exact not_old (oldD rfl) ho
          exact { wd := fun a o h => upD a o (fun q => by have := kno (oldD q); rw [this] at h; cases h) (G₅.wd a o h),
                  xin := fun a ha => (by
                    by_cases q : a = D
                    · obtain ⟨n, h⟩ := hl₅; exact ⟨_, q ▸ h⟩
                    · obtain ⟨o, h⟩ := G₅.xin a ha; exact ⟨o, upD a o q h⟩),
                  ow := fun q hq => (by
                    obtain ⟨a, vs, b, c⟩ := G₅.ow q hq
                    refine ⟨a, vs, b.at fun o h => upD _ o (fun z => ?_) h, c.ext outD⟩
                    obtain ⟨_, vs', ⟨n, h'⟩, _⟩ := cx.ow q hq
                    rw [z] at h'; exact not_old (oldD rfl) h'),
                  vars := fun q hq => (by
                    obtain ⟨v, a, b⟩ := G₅.vars q hq
                    refine ⟨v, ?_, b.ext outD⟩
                    rcases a with ⟨a, m, ⟨o, es, ep, h, r⟩, c⟩ | ⟨a, b, cc, c, o, h, hd⟩
                    · exact .inl ⟨a, m, ⟨o, es, ep, upD _ o (Ne.symm hDC) h, r⟩, c⟩
                    · exact .inr ⟨a, b, cc, c, o, upD _ o (cellD _ (mem_of_lookup c)) h, hd⟩),
                  cl := fun q hq => (let ⟨v, o, h, hd⟩ := G₅.cl q hq; ⟨v, o, upD _ o (cellD q hq) h, hd⟩), cx := G₅.cx, ap := G₅.ap, wc := G₅.wc,
                  ns := (let ⟨m, o, es, ep, h, r⟩ := G₅.ns; ⟨m, o, es, ep, upD _ o (Ne.symm hDC) h, r⟩), lx := G₅.lx, wl := G₅.wl, tk := G₅.tk }
        · obtain ⟨h, t, e1⟩ := same₄ k₄₅
          exact ⟨h₅, t, by rw [e1]⟩
    · have hin : i = src.length := by omega
      subst hin
      refine wpb (W.done s' st') fun r s₁' h => ?_
      obtain ⟨rfl, kw₁⟩ := h
      obtain ⟨m, hm⟩ := G.ns
      refine wpAny_pure (hRR D C s₁' m hDn hCn hDC (let ⟨o, es, ep, h, r⟩ := hm; ⟨o, es, ep, kw₁.keep _ o wrC h, r⟩) ?_ ?_ (Nat.le_trans tks kw₁.tk) fun b o ho => ?_)
      · simp only [Is]
        have hDCX : D ∉ C :: X := fun hm => by
          rcases List.mem_cons.mp hm with q | q
          · exact hDC q
          · obtain ⟨o, h⟩ := cx.xin D q; exact not_old (sOld (.inr (.inl rfl))) h
        refine ⟨D, ys, rfl, hDCX, acc'.at fun o ho => kw₁.keep D o wrD ho, ?_⟩
        rw [List.take_length] at ys'
        refine ys'.ext fun b o hb ho => ⟨kw₁.keep b o (fun hm => hb (List.mem_append_left _ hm)) ho, fun hm => ?_⟩
        rcases List.mem_cons.mp hm with rfl | hm
        · exact hb hCX
        · exact hb (subX b hm)
      · obtain ⟨h, t, e1⟩ := same'
        obtain ⟨h2, t2, e2⟩ := kw₁.same
        exact ⟨h2, t2, by rw [e2, e1]⟩
      · have hne : ∀ {b : Addr}, (b = C ∨ b = D ∨ b ∈ wr ∨ b = K) → s.heap.get? b = some o → False := fun {b} h ho => not_old (sOld h) ho
        exact kw₁.keep b o (fun q => hne (.inr (.inr (.inl q))) ho) (kk b o (fun q => hne (.inl q) ho) (fun q => hne (.inr (.inl q)) ho) (fun q => hne (.inr (.inr (.inr q))) ho) (fun q => hne (.inr (.inr (.inl q))) ho) (k.ext b o ho))
  exact codeAny_compStart_list (loop _ ⟨_, Nat.le_refl _, rfl⟩) (wpb (W.self 0 _ st₁) fun v s' ⟨hv, hs'⟩ => by subst hv; subst hs'; exact loop _ ⟨_, Nat.le_refl _, rfl⟩)
end
end Mine

namespace Mine
open PySem PySem.W PyProof.Rows PySem.SeqAt

section
variable {w : World} {A : Around} {s₀ : Shared} {Mu : List Addr} {en : List (Str × NameKind)} {e : Env} {X : List Addr} {Ow : Owns} {Γ : List (Str × Dt)} {s : Shared}

/-- a name in a cell is bound anew: nothing but the cell changes -/
theorem Fs.storeC {x : Str} {d : Dt} {v : Value} {c : Addr} {Q : Unit → Shared → Prop} {E : Value → Shared → Prop} (F : Fs w e X Ow Γ s) (hk : e.scope.kind = .function) (hi : Is s.heap X d v)
    (hx : e.kindOf x = some .cell) (hc : e.cells.lookup x = some c) (hcd : (x == ("__classdict__" : Str)) = false) (h : ∀ s', Fs w e X Ow (upd Γ x d) s' → Kw [c] s s' → Q () s') : wpAny (model pw w) A (storeName e x v) Q E s := by
  have wdne : ∀ {b : Addr}, (KK w.params).lookup b = none → ∀ a o, (KK w.params).lookup a = some o → a ≠ b := fun hb a o ho e => by
    rw [e, hb] at ho; cases ho
  obtain ⟨m, hm⟩ := F.ns
  obtain ⟨cv, hcv⟩ := F.cl _ (mem_of_lookup hc)
  have hcm := mem_of_lookup hc
  refine wpAny_storeName_cell hk hx hc hcv fun h' hn hs => h _ ?_ ⟨Nat.le_refl _, ⟨_, _, rfl⟩, fun b o hb ho => SameBut.back hs (by simpa using hb) ho⟩
  have up : ∀ b o, b ≠ c → s.heap.get? b = some o → h'.get? b = some o := fun b o hb e => SameBut.back hs hb e
  have hLn : e.locals ≠ c := fun q => F.cell_ne _ hcm q.symm
  refine { wd := fun a o ho => up a o (wdne (F.wc _ hcm) a o ho) (F.wd a o ho), xin := fun a ha => ?_, ow := fun p hp => ?_, vars := fun p hp => ?_, ns := ⟨m, hm.sameBut hs hLn⟩, cl := fun p hp => ?_, lx := F.lx, cx := F.cx, ap := F.ap, wc := F.wc, wl := F.wl, tk := F.tk }
  · by_cases q : a = c
    · obtain ⟨o, ho, _⟩ := hn; exact ⟨o, q ▸ ho⟩
    · obtain ⟨o, ho⟩ := F.xin a ha; exact ⟨o, up a o q ho⟩
  · obtain ⟨a, vs, b, cc⟩ := F.ow p hp
    exact ⟨a, vs, b.at fun o ho => up _ o ((F.ow_ne b).2 _ hcm) ho, cc.ext fun b o hb ho => ⟨up b o (fun q => hb (q ▸ F.cx _ hcm)) ho, hb⟩⟩
  · rcases List.mem_cons.mp hp with rfl | hp
    · exact ⟨v, .inr ⟨.inl hx, hcd, c, hc, hn⟩, hi.but hs (F.cx _ hcm)⟩
    · obtain ⟨hp1, hp2⟩ := List.mem_filter.mp hp
      have hne : p.1 ≠ x := by simpa using hp2
      obtain ⟨u, hv, hu⟩ := F.vars p hp1
      refine ⟨u, ?_, hu.but hs (F.cx _ hcm)⟩
      rcases hv with ⟨a, m', b, c'⟩ | ⟨a, b, cc, c', o, ho, hd⟩
      · exact .inl ⟨a, m', b.sameBut hs hLn, c'⟩
      · refine .inr ⟨a, b, cc, c', o, up _ o (fun q => ?_) ho, hd⟩
        subst q
        exact hne (name_of_addr F.ap (mem_of_lookup c') hcm)
  · by_cases q : p.2 = c
    · exact ⟨_, q ▸ hn⟩
    · obtain ⟨cv', o, ho, hd⟩ := F.cl p hp
      exact ⟨cv', o, up _ o q ho, hd⟩

theorem FeK {scope : Scope} {x : Str} {C K : Addr} {en' : List (Str × NameKind)} (f : Fe en e) (kd : scope.kind = .function) (hn : (relabel scope e).names = en')
    (hc : ∀ y, en'.lookup y = some .cell → ∃ c, ((x, K) :: clOf scope e).lookup y = some c) : Fe en' (cEnvK scope e x C K) :=
  ⟨⟨f.g.g, f.g.b, kd⟩, fun y k h => by show (relabel scope e).names.lookup y = some k; rw [hn]; exact h, fun y h => hc y (by rw [← hn]; exact h)⟩

/-- a name is given a list over one name that has a cell -/
theorem Fn.assignComp1K {y : Str} {elt iter : Expr} {x : Str} {px py : Pos} {scope : Scope} {pos spos : Pos} {src : List Dt} {own : Bool} (Γc : List (Str × Dt)) (g : Dt → Dt) {l : List Dt} {en' : List (Str × NameKind)} {Q : Flow → Shared → Prop} {E : Value → Shared → Prop}
    (F : Fn w s₀ Mu e X Ow Γ s) (f : Fe en e) (ok : CompOkK scope e x) (hn : ∀ x ∈ scope.names, x.2 = .local → scope.names.lookup x.1 = some .local)
    (hen : (relabel scope e).names = en') (hcell : ∀ (K : Addr) y, en'.lookup y = some .cell → ∃ c, ((x, K) :: clOf scope e).lookup y = some c) (hxk : en'.lookup x = some .cell) (hcdx : (x == ("__classdict__" : Str)) = false)
    (hit : EvIt w A e X Ow Γ (.Name x px) iter own src) (hlen : src.length ≤ sizeLine)
    (hc : ∀ q ∈ Γc, q ∈ Γ ∧ scope.names.lookup q.1 = some .free ∧ e.kindOf q.1 ≠ some .local) (ha : Mine.apart Γc x = true)
    (elts : ∀ e' X', Fe en' e' → (∀ a ∈ X, a ∈ X') → ∀ d ∈ src, Ev w A e' X' Ow ((x, d) :: Γc) elt (g d)) (hl : src.map g = l)
    (hy : en.lookup y = some .local) (h : ∀ s', Fn w s₀ Mu e X Ow (upd Γ y (.lst l)) s' → Q .next s')
    (hsw : swapsWith (.ListComp elt [⟨.Name x px, iter, [], 0⟩] scope pos) (some (.Name y py)) spos.line e = pure true)
    (hs : ∀ x, foldedSetIterable iter e x = pure x := by intro _; rfl) (hcd : (y == ("__classdict__" : Str)) = false := by rfl) :
    Wp w A (exec (.Assign [.Name y py] (.ListComp elt [⟨.Name x px, iter, [], 0⟩] scope pos) spos) e) Q E s := by
  refine .mk ?_
  have hk := f.hk
  have hx := f.kd _ _ hy
  have cx := F.toCx
  rw [exec_Assign_Name_used _ _ _ _ hsw]
  refine wpAny_bind (wpAny_standAt (wpAny_bind ?_))
  show wpAny _ A (do let _ ← comprehension (.ListComp elt [⟨.Name x px, iter, [], 0⟩] scope pos) scope e _ (newList []) false (eval iter e) (some (PySem.assign (.Name y py) e))) _ _ s
  refine wpAny_bind (wpAny_mono (wpAny_comprehension_free (use := some (PySem.assign (.Name y py) e)) (Q := fun _ s' => Q .next s') (E := E) rfl hs (closure_isK ok) ok.kd hn
    (wpb (hit.h s cx) fun xv s₁ h₁ => wpb h₁ fun it s₂ md => ?_)) (fun _ s' hq => wpAny_pure (wpAny_pure hq)) fun _ _ e => e)
  have k := md.1
  refine comp_coreK (x := x) (ifs := []) (Γc := Γc) (Γd := fun d => [(x, d)]) (p := fun _ => true) (g := g) (E := E) (RR := fun acc C r s' => compPost (model pw w) A E (some (PySem.assign (.Name y py) e)) (fun _ s' => Q .next s') acc C r s') ok cx md hlen hc
    (fun C K X' hX d hd s' v F hi => ?_) (fun C K X' _ d _ s' cx => tests_none s' cx) (fun C K X' hX d hd _ => elts _ X' (FeK f ok.kd hen (hcell K)) hX d hd) ?_
  · have fk : Fe en' (cEnvK scope e x C K) := FeK f ok.kd hen (hcell K)
    refine wpAny_assign_Name (F.storeC (c := K) fk.hk hi (fk.kd _ _ hxk) (by show List.lookup x ((x, K) :: clOf scope e) = some K; rw [List.lookup_cons, beq_self_eq_true]) hcdx fun s₂ G kw => ⟨?_, ⟨kw.tk, kw.same, fun b o hb ho => kw.keep b o (fun hm => hb (by simp at hm; simp [hm])) ho⟩⟩)
    rw [upd_apart ha] at G
    exact G
  rw [List.filter_eq_self.mpr (fun _ _ => rfl)]
  intro D C s' m' hD hC hDC hm hi hsame htk hkk
  show wpAny (model pw w) A (PySem.assign (.Name y py) e (.ref D)) (fun _ s'' => ∃ m, s''.heap.Ns C m ∧ ∀ h', Heap.SameBut C s''.heap h' → Q .next { s'' with heap := h' }) E s'
  refine wpAny_assign_Name ?_
  have hCs : s.heap.get? C = none := none_back k hC
  have k' : Kp s s' := by
    have tk' := Nat.le_trans k.tk htk
    obtain ⟨h, tk, rfl⟩ := hsame
    obtain ⟨hp, tkp, rfl, kk⟩ := k.k
    exact Kp.mk' hkk tk'
  have hCL : C ≠ e.locals := by
    rintro rfl
    obtain ⟨m, o, _, _, ho, _⟩ := F.ns
    exact not_old hCs ho
  have hCc : ∀ q ∈ e.cells, C ≠ q.2 := by
    rintro q hq rfl
    obtain ⟨v, o, ho, _⟩ := F.cl q hq
    exact not_old hCs ho
  have hCX : C ∉ X := fun hm => by
    obtain ⟨o, ho⟩ := F.xin C hm
    exact not_old hCs ho
  obtain ⟨om, es, ep, hCo, _⟩ := id hm
  have F' : Fn w s₀ Mu e (C :: X) Ow Γ s' := F.addX k' hCs ⟨om, hCo⟩
  have hK : (KK w.params).lookup C = none := by
    cases q : (KK w.params).lookup C with
    | none => rfl
    | some o => exact (not_old hCs (F.wd C o q)).elim
  rw [hl] at hi
  refine F'.toFs.store hk hi (.inl hx) hcd fun s₃ G kb => ?_
  refine ⟨m', (let ⟨o, es, ep, h, r⟩ := hm; ⟨o, es, ep, kb.keep C o hCL hCc h, r⟩), fun h' hs' => h _ ?_⟩
  have G' := G.dropC hs' hCX hK hCL hCc F.lx F.cx (fun p hp => (F.ow p hp).1)
  obtain ⟨h1, t1, e1⟩ := F'.same
  obtain ⟨h2, t2, e2⟩ := kb.same
  refine ⟨G', Nat.le_trans F'.tk0 kb.tk, ⟨h', t2, by rw [e2, e1]⟩, fun b o hb eb => SameBut.back hs' ?_ (kb.keep b o (fun q => hb (q ▸ F.lm.1)) (fun p hp q => hb (q ▸ F.lm.2 p hp)) (F'.keep0 b o hb eb)), F.lm, F.oo⟩
  rintro rfl
  exact not_old hCs (F.keep0 _ o hb eb)

/-- x, (y, z, ..) = v -/
theorem Fn.bindNest {x : Str} {px tp tp2 : Pos} {k k2 : Nat} {elts2 : List Expr} {d : Dt} {ds : List Dt} {v : Value} {Q : Unit → Shared → Prop} {E : Value → Shared → Prop} (F : Fn w s₀ Mu e X Ow Γ s) (hh : A.handled = none) (hk : e.scope.kind = .function) (hi : Is s.heap X (.tup [d, .tup ds]) v)
    (hx : Stores e x) (hs2 : ∀ n ∈ namesOf elts2, Stores e n.1) (hl2 : (namesOf elts2).length = ds.length)
    (h : ∀ s', Fn w s₀ Mu e X Ow (updAll (upd Γ x d) (((namesOf elts2).map (·.1)).zip ds)) s' → Q () s')
    (he1 : (assignEach [.Name x px, .Tuple elts2 k2 tp2] e).map (·.2) = [PySem.assign (.Name x px) e, PySem.assign (.Tuple elts2 k2 tp2) e] := by rfl) (hst1 : (assignEach [.Name x px, .Tuple elts2 k2 tp2] e).findIdx? (·.1) = none := by rfl)
    (he2 : (assignEach elts2 e).map (·.2) = (namesOf elts2).map fun n => PySem.assign (.Name n.1 n.2) e := by rfl) (hst2 : (assignEach elts2 e).findIdx? (·.1) = none := by rfl) :
    wpAny (model pw w) A (PySem.assign (.Tuple [.Name x px, .Tuple elts2 k2 tp2] k tp) e v) Q E s := by
  simp only [Is] at hi
  obtain ⟨a, vs, rfl, ha, ht, hall⟩ := hi
  simp only [IsAll] at hall
  obtain ⟨v0, r, rfl, hv0, v1, r', rfl, hv1, rfl⟩ := hall
  show wpAny _ _ (do standAt tp; PySem.unpack (.ref a) (assignEach [.Name x px, .Tuple elts2 k2 tp2] e)) _ _ _
  have hlen : (assignEach [.Name x px, .Tuple elts2 k2 tp2] e).length = [v0, v1].toArray.size := by
    have := congrArg List.length he1
    simpa using this
  refine wpAny_bind (wpAny_standAt (unpack_tuple hh ht hlen hst1 fun h' hx' => ?_))
  have kp : Kp s { s with heap := h' } := Kp.mk' fun b o ho => hx' b o (Nat.ne_of_lt (Heap.lt_size ho)) ho
  have F₁ := F.kp kp
  rw [he1]
  have hv1' : Is h' X (.tup ds) v1 := hv1.keep kp.ext
  refine assign_step (wpAny_assign_Name (F₁.toFs.store hk (hv0.keep kp.ext) hx.1 hx.2 fun s₂ G kb => ?_))
  refine assign_step ((G.unpack hh hk (kb.is F₁.toFs hv1') hs2 hl2 (fun s₃ G₃ kb₃ => wpAny_pure (h s₃ (F₁.ofKb G₃ (kb.trans kb₃)))) he2 hst2))
end
end Mine

namespace Mine
open PySem PySem.W PyProof.Rows PySem.SeqAt

/-! ## the script's six numbers -/
noncomputable def dflN : List Int := [12, 28, 10, 5, 25, 2]
noncomputable def nsOf (sc : List Int) : List Int := sc.take 6 ++ dflN.drop sc.length
theorem nsOf_len (sc : List Int) : (nsOf sc).length = 6 := by
  unfold nsOf dflN
  simp; omega
theorem lsOk (sc : List Int) : LsOk (drawnL (nsOf sc)) := by
  obtain ⟨b, g, hl⟩ := good_drawn (nsOf sc)
  rw [nsOf_len] at hl
  exact ⟨hl, g.lt, g.three.2, fun l hl' => by have := g.dep l hl'; omega, steps_drawn _⟩
theorem cut_from (l : List Dt) (k : Nat) : cut l (some (k : Int)) none = l.drop k := by
  unfold cut
  have e : clipAt l.length (k : Int) = min k l.length := by
    unfold clipAt; split <;> omega
  simp only [Option.elim, e]
  rw [List.take_of_length_le (by simp)]
  by_cases h : k ≤ l.length
  · rw [Nat.min_eq_left h]
  · rw [Nat.min_eq_right (by omega), List.drop_length, List.drop_of_length_le (by omega)]
/-- what follows always holds -/
theorem good_row (sc : List Int) {k : Nat} (hk : k < 6) : (mk8 fun c => !allOf (drawnL (nsOf sc)) (lnAt (drawnL (nsOf sc)) k).bl c || (lnAt (drawnL (nsOf sc)) k).f.ev c) = 255 := by
  obtain ⟨b, g, hl⟩ := good_drawn (nsOf sc)
  rw [nsOf_len] at hl
  refine mk8_all fun c _ => ?_
  have := g.ok (lnAt (drawnL (nsOf sc)) k) (lnAt_mem (by rw [hl]; exact hk)) c
  cases h : allOf (drawnL (nsOf sc)) (lnAt (drawnL (nsOf sc)) k).bl c with
  | false => rfl
  | true => rw [this h]; rfl
noncomputable def heldL (ls : List Ln) (b : List Nat) : List (List Int) := (b.map fun k => plainL (lnAt ls k).f) ++ [List.replicate 8 1]
noncomputable def heldDt (ls : List Ln) (b : List Nat) : List Dt := (heldL ls b).map fun l => .lst (l.map .int)
theorem plain_at (f : Fm) {c : Nat} (h : c < 8) : (plainL f).getD c 0 = bi (f.ev c) := by
  unfold plainL
  rw [List.getD_eq_getElem?_getD, List.getElem?_map, List.getElem?_range h]; rfl
theorem held_min (ls : List Ln) (b : List Nat) {c : Nat} (h : c < 8) : bi (allOf ls b c) ∈ (heldL ls b).map (fun l => l.getD c 0) ∧ ∀ x ∈ (heldL ls b).map (fun l => l.getD c 0), bi (allOf ls b c) ≤ x := by
  have h1 : (List.replicate 8 (1 : Int)).getD c 0 = 1 := by
    rw [List.getD_eq_getElem?_getD, List.getElem?_replicate, if_pos h]; rfl
  have bi01 : ∀ x : Bool, bi x = 0 ∨ bi x = 1 := fun x => by cases x <;> simp [bi]
  have e : (heldL ls b).map (fun l => l.getD c 0) = (b.map fun k => bi ((lnAt ls k).f.ev c)) ++ [1] := by
    unfold heldL
    rw [List.map_append, List.map_map, List.map_cons, List.map_nil, h1]
    congr 1
    exact List.map_congr_left fun k _ => plain_at _ h
  rw [e]
  cases ha : allOf ls b c with
  | true =>
    refine ⟨List.mem_append_right _ (by simp [bi]), fun x hx => ?_⟩
    rcases List.mem_append.mp hx with hx | hx
    · obtain ⟨k, hk, rfl⟩ := List.mem_map.mp hx
      have := List.all_eq_true.mp (show (b.all fun j => (lnAt ls j).f.ev c) = true from ha) k hk
      rw [this]; exact Int.le_refl _
    · simp at hx; rw [hx]; exact Int.le_refl _
  | false =>
    obtain ⟨k, hk, hf⟩ := List.all_eq_false.mp (show (b.all fun j => (lnAt ls j).f.ev c) = false from ha)
    refine ⟨List.mem_append_left _ (List.mem_map.mpr ⟨k, hk, ?_⟩), fun x hx => ?_⟩
    · have : (lnAt ls k).f.ev c = false := by simpa using hf
      rw [this]
    · rcases List.mem_append.mp hx with hx | hx
      · obtain ⟨k, hk, rfl⟩ := List.mem_map.mp hx
        rcases bi01 ((lnAt ls k).f.ev c) with q | q <;> rw [q] <;> simp [bi]
      · simp at hx; rw [hx]; simp [bi]
end Mine

namespace Mine
open PySem PySem.W PyProof.Rows PySem.SeqAt

noncomputable def ppB : Array UInt8 := #[80, 80]
noncomputable def row3 : Dt → Dt
  | .lst [_, _, _, d] => d
  | _ => .none
noncomputable def plainK (ls : List Ln) : Dt → Dt
  | .int i => .lst ((plainL (lnAt ls i.toNat).f).map .int)
  | _ => .none
noncomputable def oneC (c : Nat) : Dt → Dt
  | .lst l => l.getD c .none
  | _ => .none
noncomputable def unIt : Dt → Int
  | .int i => i
  | _ => 0
theorem getD_map {l : List Int} {c : Nat} (h : c < l.length) : (l.map Dt.int).getD c .none = .int (l.getD c 0) := by
  rw [List.getD_eq_getElem?_getD, List.getElem?_map, List.getD_eq_getElem?_getD, List.getElem?_eq_getElem h]; rfl
theorem held_len {ls : List Ln} {b : List Nat} {l : List Int} (h : l ∈ heldL ls b) : l.length = 8 := by
  unfold heldL at h
  rcases List.mem_append.mp h with h | h
  · obtain ⟨k, _, rfl⟩ := List.mem_map.mp h
    simp [plainL]
  · simp at h; rw [h]; rfl
section
variable {w : World} {A : Around} {X : List Addr}
noncomputable abbrev lawG (ls : List Ln) (told : List Dt) : List (Str × Dt) := [("lines", .lst (lnsDt ls)), ("told", .lst told)]
set_option maxHeartbeats 8000000 in
theorem op_law (sc : List Int) (hsc : sc.length ≤ 1000) (r : Room 20 A) {s : Shared} {vs : List Value} (wd : Wd w s.heap) (x : Xin X s) (i : IsAll s.heap X [.lst (sc.map .int)] vs) :
    wpAny (model pw w) A (call (.ref 249) vs) (fun v s' => Kp s s' ∧ Is s'.heap X (.bool true) v) Bot s := by
  obtain ⟨v, rfl, iv⟩ := i.one
  refine call_fn0 (names := ["script"]) (fn249 _) r (.inr (Dr.frame (by rfl) (by rfl) (by rfl))) wd x i rfl rfl (by rfl) (by decide) fun e s₁ he r' hown F => ?_
  have fe : Fe (fScope (top 26)).names e := by subst he; exact Fe.of (fn249 _)
  clear he
  have hk := fe.hk
  have z : sizeLine = 16777216 := rfl
  have hsl : (sc.map Dt.int).length = sc.length := by simp
  have ok := lsOk sc
  have gr : ∀ {k : Nat}, k < 6 → _ := fun {k} => good_row sc (k := k)
  have hns : (nsOf sc).map Dt.int = (sc.map Dt.int).take 6 ++ ([.int 12, .int 28, .int 10, .int 5, .int 25, .int 2] : List Dt).drop sc.length := by
    unfold nsOf dflN
    rw [List.map_append, List.map_take, List.map_drop]; rfl
  have h6 := nsOf_len sc
  refine execs_cons' (F.assign (d := .lst (lnsDt (drawnL (nsOf sc)))) (Ev.call fe.g (fe.kd _ _ rfl) (gl_law_drawn _) (.fn (fn205 _)) (EvAll.cons (Ev.eq (Ev.bin (Op2.addL (ds := (sc.map Dt.int).take 6) (es := ([.int 12, .int 28, .int 10, .int 5, .int 25, .int 2] : List Dt).drop sc.length) (by rw [z]; simp; omega))
    (Ev.eq (Ev.slice (d₁ := .lst (sc.map Dt.int)) (hi := some ((6 : Nat) : Int)) (OpS.lst (by rw [hsl, z]; omega)) (Ev.var hk) EvP.none (EvP.some Ev.int)) (by rw [cut_take]))
    (Ev.eq (Ev.slice (d₁ := .lst [.int 12, .int 28, .int 10, .int 5, .int 25, .int 2]) (lo := some ((sc.length : Nat) : Int)) (OpS.lst (by simp; decide)) (Ev.lst (EvAll.cons Ev.int (EvAll.cons Ev.int (EvAll.cons Ev.int (EvAll.cons Ev.int (EvAll.cons Ev.int (EvAll.cons Ev.int EvAll.nil)))))) (by simp; decide))
      (EvP.some (Ev.eq (Ev.call fe.g (fe.kd _ _ rfl) (gl_len _) (.blt _) (EvAll.cons (Ev.var hk) EvAll.nil) (OpC.len (ds := sc.map Dt.int) (by rw [hsl]; omega))) (by rw [hsl]))) EvP.none) (by rw [cut_from]))) (by rw [hns])) EvAll.nil) (op_drawn (nsOf sc) (by omega) (r'.less))) hk (fe.loc (.inr rfl)) fun s₂ F => ?_)
  generalize hls : drawnL (nsOf sc) = ls at *
  have hll := lnsDt_len ls
  have hlen := ok.len
  have F := F.norm [("lines", .lst (lnsDt ls))] ⟨rfl, trivial⟩
  refine execs_cons' (F.assign (d := .lst (toldDt ls 6)) (Ev.call fe.g (fe.kd _ _ rfl) (gl_law_judged _) (.fn (fn234 _)) (EvAll.cons (Ev.comp1 [("lines", .lst (lnsDt ls))] (fun d => .str (S (lineOf ls (unIt d).toNat))) (l := pageDt ls) fe (by rfl)
    (EvIt.range1 fe.g r'.hd (fe.kd _ _ rfl) (gl_range _) (EvAll.cons Ev.int EvAll.nil) (by decide) (by decide)) (by simp [rangeDt]; decide) ⟨rfl, trivial⟩ (fun e' X' g' hX d hd => ?_) ?_) EvAll.nil) (op_judged ls ok (r'.less))) hk (fe.loc (.inl rfl)) fun s₃ F => ?_)
  · obtain ⟨k, hk6, rfl⟩ := List.mem_map.mp hd
    have hk6 : k < 6 := by simpa using hk6
    have e0 : (0 : Int) + (k : Int) = ((k : Nat) : Int) := by omega
    rw [e0]
    exact Ev.call g'.1 (g'.2 _ rfl) (gl_law_line _) (.fn (fn222 _)) (EvAll.cons (Ev.var g'.1.k) (EvAll.cons (Ev.var g'.1.k) EvAll.nil)) (op_line ls k (by rw [hlen]; exact hk6) (by omega) ok.lt ok.three ok.dep (r'.less))
  · unfold rangeDt pageDt
    rw [List.map_map]
    refine List.map_congr_left fun k _ => ?_
    simp [unIt]
  · have htl := told_len ls 6
    have hpp : (toldDt ls 6).map row3 = List.replicate 6 (.bytes ppB) := by
      have e : ∀ k ∈ List.range 6, row3 (rowDt ls k) = .bytes ppB := fun k hk => by
        have h := gr (k := k) (by simpa using hk)
        show Dt.bytes (apOf _) = _
        rw [h]; rfl
      unfold toldDt
      rw [List.map_map, show ((row3 ∘ rowDt ls) : Nat → Dt) = fun k => row3 (rowDt ls k) from rfl, List.map_congr_left e]
      rfl
    have hu := r'.un
    refine execs_cons' (F.if_ (b := false) (EvT.eq (EvT.cmp (Op2.neL (l := List.replicate 6 (.bytes ppB)) (l' := (List.replicate 6 [Dt.bytes ppB]).flatten) 1 (by rfl) (by omega))
      (Ev.comp1 [] row3 (l := List.replicate 6 (.bytes ppB)) fe (by rfl) (EvIt.lst r'.hd (Ev.var hk)) (by rw [htl, z]; omega) trivial (fun e' X' g' hX d hd => ?_) hpp)
      (Ev.bin (Op2.mulL (ds := [Dt.bytes ppB]) (k := 6) (by decide) (by decide) (by decide)) (Ev.lst (EvAll.cons Ev.bytes EvAll.nil) (by simp; decide)) Ev.int)) (by rfl)) (fun h => by cases h) fun _ s₄ F => execs_nil' ?_)
    · obtain ⟨k, _, rfl⟩ := List.mem_map.mp hd
      exact Ev.sub (d₁ := rowDt ls k) (Op2.idxL (j := 3) rfl rfl (by simp)) (Ev.var g'.1.k) Ev.int
    · have F := F.norm (lawG ls (toldDt ls 6)) ⟨rfl, rfl, trivial⟩
      have hel : (enumDt (lnsDt ls)).length = 6 := by simp [enumDt, hll, hlen]
      refine execs_cons' (F.for_ (src := enumDt (lnsDt ls)) (EvIt.enum fe.g r'.hd (fe.kd _ _ rfl) (gl_enumerate _) (EvAll.cons (Ev.var hk) EvAll.nil))
        (fun i Ow Γ => Ow = [] ∧ AllHas (lawG ls (toldDt ls 6)) Γ) ⟨rfl, ⟨rfl, rfl, trivial⟩⟩ (fun i d Ow' Γ' wr s' v hd hI _ F hv => ?_) (fun Ow' Γ' s' hI _ F => ?_))
      · obtain ⟨rfl, hΓ⟩ := hI
        have F := F.norm _ hΓ
        have hi6 : i < 6 := by rw [← hel]; exact (List.getElem?_eq_some_iff.mp hd).1
        have hdd : d = .tup [.int (i : Nat), (lnAt ls i).dt] := by
          unfold enumDt at hd
          rw [List.getElem?_map, List.getElem?_zipIdx, lnsDt_at (by rw [hlen]; exact hi6)] at hd
          simpa using hd.symm
        subst hdd
        have him : lnAt ls i ∈ ls := lnAt_mem (by rw [hlen]; exact hi6)
        have hb3 := ok.three _ him
        have hbj := ok.lt _ him
        have hdep := ok.dep _ him
        generalize hL : lnAt ls i = L at *
        refine (F.bindNest r'.hd hk (d := .int (i : Nat)) (ds := [.lst (natsDt L.bl), L.f.dt, .int L.c]) hv (fe.sto rfl) (fe.st (by rfl)) rfl fun s₄ F => ?_)
        have F := F.norm [("place", .int (i : Nat)), ("blocks", .lst (natsDt L.bl)), ("formula", L.f.dt), ("lines", .lst (lnsDt ls)), ("told", .lst (toldDt ls 6))] ⟨rfl, rfl, rfl, rfl, rfl, trivial⟩
        have hhl : (heldDt ls L.bl).length = L.bl.length + 1 := by simp [heldDt, heldL]
        refine execs_cons' (F.assign (d := .lst (heldDt ls L.bl)) (Ev.eq (Ev.bin (Op2.addL (ds := L.bl.map fun k => .lst ((plainL (lnAt ls k).f).map .int)) (es := [.lst ((List.replicate 8 (1 : Int)).map .int)]) (by rw [z]; simp; omega))
          (Ev.comp1 [("lines", .lst (lnsDt ls))] (plainK ls) (l := L.bl.map fun k => .lst ((plainL (lnAt ls k).f).map .int)) fe (by rfl) (EvIt.lst r'.hd (Ev.var hk)) (by rw [natsDt_len, z]; omega) ⟨rfl, trivial⟩ (fun e' X' g' hX d hd => ?_) ?_)
          (Ev.lst (EvAll.cons (Ev.eq (Ev.bin (Op2.mulL (ds := [Dt.int 1]) (k := 8) (by decide) (by decide) (by decide)) (Ev.lst (EvAll.cons Ev.int EvAll.nil) (by simp; decide)) Ev.int) rfl) EvAll.nil) (by simp; decide))) (by simp [heldDt, heldL])) hk (fe.loc (.inr rfl)) fun s₅ F => ?_)
        · obtain ⟨k, hk', rfl⟩ := List.mem_map.mp hd
          have hkl := hbj k hk'
          have hkd := ok.dep _ (lnAt_mem hkl)
          have hx : ∀ l : Ln, seqIndex? 1 [Dt.lst (natsDt l.bl), l.f.dt, .int l.c].length = some 1 ∧ [Dt.lst (natsDt l.bl), l.f.dt, .int l.c][1]? = some l.f.dt := fun l => ⟨rfl, rfl⟩
          show Ev w _ e' X' [] _ _ (.lst ((plainL (lnAt ls k).f).map .int))
          exact Ev.call g'.1 (g'.2 _ rfl) (gl_law_plain _) (.fn (fn239 _)) (EvAll.cons (Ev.sub (d₁ := (lnAt ls k).dt) (Op2.idxT (hx _).1 (hx _).2 (by simp)) (Ev.sub (d₁ := .lst (lnsDt ls)) (Op2.idxL (by rw [hll]; exact seqIndex_nat hkl) (lnsDt_at hkl) (by rw [hll]; omega)) (Ev.var g'.1.k) (Ev.var g'.1.k)) Ev.int) EvAll.nil) (op_plain _ (r'.less))
        · unfold natsDt
          rw [List.map_map]
          refine List.map_congr_left fun k _ => ?_
          simp [plainK]
        · have F := F.norm [("held", .lst (heldDt ls L.bl)), ("place", .int (i : Nat)), ("blocks", .lst (natsDt L.bl)), ("formula", L.f.dt), ("lines", .lst (lnsDt ls)), ("told", .lst (toldDt ls 6))] ⟨rfl, rfl, rfl, rfl, rfl, rfl, trivial⟩
          have hkh : e.kindOf "held" = some .cell := fe.kd _ _ rfl
          obtain ⟨ch, hch⟩ := fe.ce _ hkh
          refine execs_cons' (F.assignComp1K (x := "case") [("held", .lst (heldDt ls L.bl))] (fun d => .int (bi (allOf ls L.bl (unIt d).toNat))) (l := (List.range 8).map fun c => .int (bi (allOf ls L.bl c))) (en' := [(".0", .local), ("case", .cell), ("min", .globalImplicit), ("held", .cell)]) fe
            ?_ ?_ ?_ ?_ rfl rfl (EvIt.range1 fe.g r'.hd (fe.kd _ _ rfl) (gl_range _) (EvAll.cons Ev.int EvAll.nil) (by decide) (by decide)) (by simp [rangeDt]; decide) ?_ rfl (fun e' X' fk hX d hd => ?_) ?_ rfl (fun s₆ F => ?_) (swaps_ok fe rfl (by rfl)))
          · refine ⟨rfl, nodup_of (by rfl), fun x hx q => ?_, fun n acc => rfl, fun h => rfl, by decide⟩
            simp only [List.mem_cons, List.not_mem_nil, or_false] at hx
            rcases hx with rfl | rfl | rfl | rfl
            · cases q
            · cases q
            · cases q
            · exact ⟨ch, hch⟩
          · intro x hx q
            simp only [List.mem_cons, List.not_mem_nil, or_false] at hx
            rcases hx with rfl | rfl | rfl | rfl
            · rfl
            · cases q
            · cases q
            · cases q
          · unfold relabel
            have h1 : (NameKind.free == NameKind.free && e.scope.kind == .function && e.kindOf "held" == some .cell) = true := by rw [hk, hkh]; rfl
            simp only [List.map_cons, List.map_nil, h1, if_true]
            rfl
          · intro K y hy
            by_cases q1 : y = "case"
            · subst q1; exact ⟨K, by rw [List.lookup_cons, beq_self_eq_true]⟩
            · by_cases q2 : y = "held"
              · subst q2
                refine ⟨ch, ?_⟩
                rw [List.lookup_cons, show (("held" : Str) == ("case" : Str)) = false from rfl]
                exact clOf_lookup (by simp) hch
              · exfalso
                simp only [List.lookup_cons] at hy
                rw [beq_eq_false_iff_ne.mpr q1, beq_eq_false_iff_ne.mpr q2] at hy
                cases h3 : (y == (".0" : Str)) <;> cases h4 : (y == ("min" : Str)) <;> simp [h3, h4] at hy
          · intro q hq
            simp only [List.mem_cons, List.not_mem_nil, or_false] at hq
            subst hq
            exact ⟨by simp, rfl, by rw [hkh]; simp⟩
          · obtain ⟨c, hc8, rfl⟩ := List.mem_map.mp hd
            have hc8 : c < 8 := by simpa using hc8
            have e0 : (0 : Int) + (c : Int) = ((c : Nat) : Int) := by omega
            rw [e0]
            have hm := held_min ls L.bl hc8
            show Ev w _ e' X' [] _ _ (.int (bi (allOf ls L.bl c)))
            refine Ev.call fk.g (fk.kd _ _ rfl) (gl_min _) (.blt _) (EvAll.cons (Ev.comp1 [("case", .int (c : Nat))] (oneC c) (l := ((heldL ls L.bl).map fun l => l.getD c 0).map .int) fk (by rfl) (EvIt.lst r'.hd (Ev.var fk.hk)) (by rw [hhl, z]; omega) ⟨rfl, trivial⟩ (fun e'' X'' g'' hX2 d hd => ?_) ?_) EvAll.nil) (OpC.minL r'.hd hm.1 hm.2)
            · obtain ⟨l, hl, rfl⟩ := List.mem_map.mp hd
              have hl8 := held_len hl
              have hml : (l.map Dt.int).length = 8 := by simp [hl8]
              refine Ev.sub (d₁ := .lst (l.map .int)) (Op2.idxL (i := ((c : Nat) : Int)) (j := c) (by rw [hml]; exact seqIndex_nat hc8) ?_ (by rw [hml]; omega)) (Ev.var g''.1.k) (Ev.var g''.1.k)
              show (l.map Dt.int)[c]? = some ((l.map Dt.int).getD c .none)
              rw [List.getD_eq_getElem?_getD, List.getElem?_eq_getElem (by rw [hml]; exact hc8)]; rfl
            · unfold heldDt
              rw [List.map_map, List.map_map]
              refine List.map_congr_left fun l hl => ?_
              exact getD_map (by rw [held_len hl]; exact hc8)
          · unfold rangeDt
            rw [List.map_map]
            refine List.map_congr_left fun c _ => ?_
            simp [unIt]
          · have F := F.norm [("both", .lst ((List.range 8).map fun c => .int (bi (allOf ls L.bl c)))), ("place", .int (i : Nat)), ("blocks", .lst (natsDt L.bl)), ("formula", L.f.dt), ("lines", .lst (lnsDt ls)), ("told", .lst (toldDt ls 6))] ⟨rfl, rfl, rfl, rfl, rfl, rfl, trivial⟩
            have hrow : (toldDt ls 6)[i]? = some (.lst [.int (L.bl.length : Nat), .bytes (apOf (mk8 L.f.ev)), .bytes (apOf (mk8 (allOf ls L.bl))), .bytes (apOf (mk8 fun c => !allOf ls L.bl c || L.f.ev c))]) := by
              unfold toldDt
              rw [List.getElem?_map, List.getElem?_range hi6, Option.map_some]
              unfold rowDt
              rw [hL]
            have e1 : (plainL L.f).map Dt.int = ((List.range 8).map L.f.ev).map fun b => Dt.int (bi b) := by
              unfold plainL; rw [List.map_map, List.map_map]; rfl
            have e2 : ((List.range 8).map fun c => Dt.int (bi (allOf ls L.bl c))) = ((List.range 8).map (allOf ls L.bl)).map fun b => Dt.int (bi b) := by
              rw [List.map_map]; rfl
            rw [e2] at F
            generalize hA1 : apOf (mk8 L.f.ev) = a1 at *
            generalize hA2 : apOf (mk8 (allOf ls L.bl)) = a2 at *
            generalize hA3 : apOf (mk8 fun c => !allOf ls L.bl c || L.f.ev c) = a3 at *
            refine execs_cons' (F.if_ (b := false) (EvT.eq (EvT.cmp (Op2.neL (l := [.int (L.bl.length : Nat), .bytes a1, .bytes a2]) (l' := [.int (L.bl.length : Nat), .bytes a1, .bytes a2]) 1 (by simp [dkins, dkin]) (by omega))
              (Ev.eq (Ev.slice (d₁ := .lst [.int (L.bl.length : Nat), .bytes a1, .bytes a2, .bytes a3]) (hi := some ((3 : Nat) : Int)) (OpS.lst (by simp; decide)) (Ev.sub (d₁ := .lst (toldDt ls 6)) (Op2.idxL (by rw [htl]; exact seqIndex_nat hi6) hrow (by rw [htl]; omega)) (Ev.var hk) (Ev.var hk)) EvP.none (EvP.some Ev.int)) (by rw [cut_take]; rfl))
              (Ev.lst (EvAll.cons (Ev.eq (Ev.call fe.g (fe.kd _ _ rfl) (gl_len _) (.blt _) (EvAll.cons (Ev.var hk) EvAll.nil) (OpC.len (ds := natsDt L.bl) (by rw [natsDt_len]; omega))) (by rw [natsDt_len]))
                (EvAll.cons (Ev.eq (Ev.call fe.g (fe.kd _ _ rfl) (gl_law_letters _) (.fn (fn244 _)) (EvAll.cons (Ev.eq (Ev.call fe.g (fe.kd _ _ rfl) (gl_law_plain _) (.fn (fn239 _)) (EvAll.cons (Ev.var hk) EvAll.nil) (op_plain L.f (r'.less))) (by rw [e1])) EvAll.nil) (op_letters (bs := (List.range 8).map L.f.ev) (by simp) (r'.less))) (by rw [← hA1]; rfl))
                (EvAll.cons (Ev.eq (Ev.call fe.g (fe.kd _ _ rfl) (gl_law_letters _) (.fn (fn244 _)) (EvAll.cons (Ev.var hk) EvAll.nil) (op_letters (bs := (List.range 8).map (allOf ls L.bl)) (by simp) (r'.less))) (by rw [← hA2]; rfl)) EvAll.nil))) (by simp; decide))) (by simp [deqs, deq])) (fun h => by cases h) fun _ s₇ F => execs_nil' ?_)
            exact execs_nil' ⟨[], _, ⟨rfl, ⟨rfl, rfl, trivial⟩⟩, rfl, F⟩
      · obtain ⟨rfl, hΓ⟩ := hI
        have F := F.norm _ hΓ
        exact execs_cons' (F.ret Ev.bool fun v s₅ F iv => ⟨F.kept hown, iv.less fun a ha => List.mem_cons_of_mem _ (List.mem_append_right _ ha)⟩)
end
end Mine

namespace Mine
open PySem PySem.W
noncomputable def n3_0 (P : Params) : DictEntry := ⟨PyData.keyHash P (Str.ofString "__name__"), (.str (Str.ofString "__name__") 165), (.str (Str.ofString "__main__") 164)⟩
noncomputable def n3_1 (P : Params) : DictEntry := ⟨PyData.keyHash P (Str.ofString "__doc__"), (.str (Str.ofString "__doc__") 166), .none⟩
noncomputable def n3_2 (P : Params) : DictEntry := ⟨PyData.keyHash P (Str.ofString "__package__"), (.str (Str.ofString "__package__") 167), .none⟩
noncomputable def n3_3 (P : Params) : DictEntry := ⟨PyData.keyHash P (Str.ofString "__loader__"), (.str (Str.ofString "__loader__") 168), (.builtin "__main__.__loader__#opaque")⟩
noncomputable def n3_4 (P : Params) : DictEntry := ⟨PyData.keyHash P (Str.ofString "__spec__"), (.str (Str.ofString "__spec__") 169), .none⟩
noncomputable def n3_5 (P : Params) : DictEntry := ⟨PyData.keyHash P (Str.ofString "__annotations__"), (.str (Str.ofString "__annotations__") 170), (.ref 6)⟩
noncomputable def n3_6 (P : Params) : DictEntry := ⟨PyData.keyHash P (Str.ofString "__builtins__"), (.str (Str.ofString "__builtins__") 171), (.ref 4)⟩
noncomputable def n3_7 (P : Params) : DictEntry := ⟨PyData.keyHash P (Str.ofString "__file__"), (.str (Str.ofString "__file__") 173), (.str (Str.ofString "/claim/cut.py") 172)⟩
noncomputable def n3_8 (P : Params) : DictEntry := ⟨PyData.keyHash P (Str.ofString "__cached__"), (.str (Str.ofString "__cached__") 174), .none⟩
noncomputable def o3_b (P : Params) : Obj := ⟨.type "dict", none, .dict [n3_0 P, n3_1 P, n3_2 P, n3_3 P, n3_4 P, n3_5 P, n3_6 P, n3_7 P, n3_8 P].toArray 9, [].toArray⟩
noncomputable def o12_b (P : Params) : Obj := ⟨.none, none, .fields [].toArray, [].toArray⟩
noncomputable def n3_9 (P : Params) : DictEntry := ⟨PyData.keyHash P (Str.ofString "_wall"), (.str (Str.ofString "_wall") 193), (.ref 21)⟩
noncomputable def o3_0 (P : Params) : Obj := ⟨.type "dict", none, .dict [n3_0 P, n3_1 P, n3_2 P, n3_3 P, n3_4 P, n3_5 P, n3_6 P, n3_7 P, n3_8 P, n3_9 P].toArray 10, [].toArray⟩
noncomputable def o12_0 (P : Params) : Obj := ⟨.none, none, .fields [(.int 1 0), (.int 0 0), (.ref 20)].toArray, [].toArray⟩
noncomputable def n3_10 (P : Params) : DictEntry := ⟨PyData.keyHash P (Str.ofString "__name__"), (.str (Str.ofString "__name__") 165), (.str (Str.ofString "cpy313.tabnanny") 194)⟩
noncomputable def o3_1 (P : Params) : Obj := ⟨.type "dict", none, .dict [n3_10 P, n3_1 P, n3_2 P, n3_3 P, n3_4 P, n3_5 P, n3_6 P, n3_7 P, n3_8 P, n3_9 P].toArray 10, [].toArray⟩
noncomputable def o12_1 (P : Params) : Obj := ⟨.none, none, .fields [(.int 1 0), (.int 0 0), (.ref 20)].toArray, [].toArray⟩
noncomputable def n3_11 (P : Params) : DictEntry := ⟨PyData.keyHash P (Str.ofString "Whitespace"), (.str (Str.ofString "Whitespace") 295), (.ref 83)⟩
noncomputable def o3_2 (P : Params) : Obj := ⟨.type "dict", none, .dict [n3_10 P, n3_1 P, n3_2 P, n3_3 P, n3_4 P, n3_5 P, n3_6 P, n3_7 P, n3_8 P, n3_9 P, n3_11 P].toArray 11, [].toArray⟩
noncomputable def o12_2 (P : Params) : Obj := ⟨.none, none, .fields [(.int 1 0), (.int 0 0), (.ref 20), (.int 5 0), (.int 0 0), (.ref 27)].toArray, [].toArray⟩
noncomputable def n3_12 (P : Params) : DictEntry := ⟨PyData.keyHash P (Str.ofString "__name__"), (.str (Str.ofString "__name__") 165), (.str (Str.ofString "cpy313.imaplib") 296)⟩
noncomputable def o3_3 (P : Params) : Obj := ⟨.type "dict", none, .dict [n3_12 P, n3_1 P, n3_2 P, n3_3 P, n3_4 P, n3_5 P, n3_6 P, n3_7 P, n3_8 P, n3_9 P, n3_11 P].toArray 11, [].toArray⟩
noncomputable def o12_3 (P : Params) : Obj := ⟨.none, none, .fields [(.int 1 0), (.int 0 0), (.ref 20), (.int 5 0), (.int 0 0), (.ref 27)].toArray, [].toArray⟩
noncomputable def n3_13 (P : Params) : DictEntry := ⟨PyData.keyHash P (Str.ofString "Int2AP"), (.str (Str.ofString "Int2AP") 307), (.ref 94)⟩
noncomputable def o3_4 (P : Params) : Obj := ⟨.type "dict", none, .dict [n3_12 P, n3_1 P, n3_2 P, n3_3 P, n3_4 P, n3_5 P, n3_6 P, n3_7 P, n3_8 P, n3_9 P, n3_11 P, n3_13 P].toArray 12, [].toArray⟩
noncomputable def o12_4 (P : Params) : Obj := ⟨.none, none, .fields [(.int 1 0), (.int 0 0), (.ref 20), (.int 5 0), (.int 0 0), (.ref 27), (.int 62 0), (.int 0 0), (.ref 93)].toArray, [].toArray⟩
noncomputable def n3_14 (P : Params) : DictEntry := ⟨PyData.keyHash P (Str.ofString "__name__"), (.str (Str.ofString "__name__") 165), (.str (Str.ofString "cpy313.stringprep") 308)⟩
noncomputable def o3_5 (P : Params) : Obj := ⟨.type "dict", none, .dict [n3_14 P, n3_1 P, n3_2 P, n3_3 P, n3_4 P, n3_5 P, n3_6 P, n3_7 P, n3_8 P, n3_9 P, n3_11 P, n3_13 P].toArray 12, [].toArray⟩
noncomputable def o12_5 (P : Params) : Obj := ⟨.none, none, .fields [(.int 1 0), (.int 0 0), (.ref 20), (.int 5 0), (.int 0 0), (.ref 27), (.int 62 0), (.int 0 0), (.ref 93)].toArray, [].toArray⟩
noncomputable def n3_15 (P : Params) : DictEntry := ⟨PyData.keyHash P (Str.ofString "b1_set"), (.str (Str.ofString "b1_set") 369), (.ref 102)⟩
noncomputable def o3_6 (P : Params) : Obj := ⟨.type "dict", none, .dict [n3_14 P, n3_1 P, n3_2 P, n3_3 P, n3_4 P, n3_5 P, n3_6 P, n3_7 P, n3_8 P, n3_9 P, n3_11 P, n3_13 P, n3_15 P].toArray 13, [].toArray⟩
noncomputable def o12_6 (P : Params) : Obj := ⟨.none, none, .fields [(.int 1 0), (.int 0 0), (.ref 20), (.int 5 0), (.int 0 0), (.ref 27), (.int 62 0), (.int 0 0), (.ref 93)].toArray, [].toArray⟩
noncomputable def n3_16 (P : Params) : DictEntry := ⟨PyData.keyHash P (Str.ofString "in_table_b1"), (.str (Str.ofString "in_table_b1") 376), (.ref 112)⟩
noncomputable def o3_7 (P : Params) : Obj := ⟨.type "dict", none, .dict [n3_14 P, n3_1 P, n3_2 P, n3_3 P, n3_4 P, n3_5 P, n3_6 P, n3_7 P, n3_8 P, n3_9 P, n3_11 P, n3_13 P, n3_15 P, n3_16 P].toArray 14, [].toArray⟩
noncomputable def o12_7 (P : Params) : Obj := ⟨.none, none, .fields [(.int 1 0), (.int 0 0), (.ref 20), (.int 5 0), (.int 0 0), (.ref 27), (.int 62 0), (.int 0 0), (.ref 93), (.int 72 0), (.int 0 0), (.ref 111)].toArray, [].toArray⟩
noncomputable def n3_17 (P : Params) : DictEntry := ⟨PyData.keyHash P (Str.ofString "b3_exceptions"), (.str (Str.ofString "b3_exceptions") 2327), (.ref 113)⟩
noncomputable def o3_8 (P : Params) : Obj := ⟨.type "dict", none, .dict [n3_14 P, n3_1 P, n3_2 P, n3_3 P, n3_4 P, n3_5 P, n3_6 P, n3_7 P, n3_8 P, n3_9 P, n3_11 P, n3_13 P, n3_15 P, n3_16 P, n3_17 P].toArray 15, [].toArray⟩
noncomputable def o12_8 (P : Params) : Obj := ⟨.none, none, .fields [(.int 1 0), (.int 0 0), (.ref 20), (.int 5 0), (.int 0 0), (.ref 27), (.int 62 0), (.int 0 0), (.ref 93), (.int 72 0), (.int 0 0), (.ref 111)].toArray, [].toArray⟩
noncomputable def n3_18 (P : Params) : DictEntry := ⟨PyData.keyHash P (Str.ofString "map_table_b3"), (.str (Str.ofString "map_table_b3") 2335), (.ref 158)⟩
noncomputable def o3_9 (P : Params) : Obj := ⟨.type "dict", none, .dict [n3_14 P, n3_1 P, n3_2 P, n3_3 P, n3_4 P, n3_5 P, n3_6 P, n3_7 P, n3_8 P, n3_9 P, n3_11 P, n3_13 P, n3_15 P, n3_16 P, n3_17 P, n3_18 P].toArray 16, [].toArray⟩
noncomputable def o12_9 (P : Params) : Obj := ⟨.none, none, .fields [(.int 1 0), (.int 0 0), (.ref 20), (.int 5 0), (.int 0 0), (.ref 27), (.int 62 0), (.int 0 0), (.ref 93), (.int 72 0), (.int 0 0), (.ref 111), (.int 75 0), (.int 0 0), (.ref 157)].toArray, [].toArray⟩
noncomputable def n3_19 (P : Params) : DictEntry := ⟨PyData.keyHash P (Str.ofString "__name__"), (.str (Str.ofString "__name__") 165), (.str (Str.ofString "cpy313.xml.etree.ElementTree") 2336)⟩
noncomputable def o3_10 (P : Params) : Obj := ⟨.type "dict", none, .dict [n3_19 P, n3_1 P, n3_2 P, n3_3 P, n3_4 P, n3_5 P, n3_6 P, n3_7 P, n3_8 P, n3_9 P, n3_11 P, n3_13 P, n3_15 P, n3_16 P, n3_17 P, n3_18 P].toArray 16, [].toArray⟩
noncomputable def o12_10 (P : Params) : Obj := ⟨.none, none, .fields [(.int 1 0), (.int 0 0), (.ref 20), (.int 5 0), (.int 0 0), (.ref 27), (.int 62 0), (.int 0 0), (.ref 93), (.int 72 0), (.int 0 0), (.ref 111), (.int 75 0), (.int 0 0), (.ref 157)].toArray, [].toArray⟩
noncomputable def n3_20 (P : Params) : DictEntry := ⟨PyData.keyHash P (Str.ofString "_raise_serialization_error"), (.str (Str.ofString "_raise_serialization_error") 2344), (.ref 165)⟩
noncomputable def o3_11 (P : Params) : Obj := ⟨.type "dict", none, .dict [n3_19 P, n3_1 P, n3_2 P, n3_3 P, n3_4 P, n3_5 P, n3_6 P, n3_7 P, n3_8 P, n3_9 P, n3_11 P, n3_13 P, n3_15 P, n3_16 P, n3_17 P, n3_18 P, n3_20 P].toArray 17, [].toArray⟩
noncomputable def o12_11 (P : Params) : Obj := ⟨.none, none, .fields [(.int 1 0), (.int 0 0), (.ref 20), (.int 5 0), (.int 0 0), (.ref 27), (.int 62 0), (.int 0 0), (.ref 93), (.int 72 0), (.int 0 0), (.ref 111), (.int 75 0), (.int 0 0), (.ref 157), (.int 81 0), (.int 0 0), (.ref 164)].toArray, [].toArray⟩
noncomputable def n3_21 (P : Params) : DictEntry := ⟨PyData.keyHash P (Str.ofString "_escape_cdata"), (.str (Str.ofString "_escape_cdata") 2351), (.ref 172)⟩
noncomputable def o3_12 (P : Params) : Obj := ⟨.type "dict", none, .dict [n3_19 P, n3_1 P, n3_2 P, n3_3 P, n3_4 P, n3_5 P, n3_6 P, n3_7 P, n3_8 P, n3_9 P, n3_11 P, n3_13 P, n3_15 P, n3_16 P, n3_17 P, n3_18 P, n3_20 P, n3_21 P].toArray 18, [].toArray⟩
noncomputable def o12_12 (P : Params) : Obj := ⟨.none, none, .fields [(.int 1 0), (.int 0 0), (.ref 20), (.int 5 0), (.int 0 0), (.ref 27), (.int 62 0), (.int 0 0), (.ref 93), (.int 72 0), (.int 0 0), (.ref 111), (.int 75 0), (.int 0 0), (.ref 157), (.int 81 0), (.int 0 0), (.ref 164), (.int 83 0), (.int 0 0), (.ref 171)].toArray, [].toArray⟩
noncomputable def n3_22 (P : Params) : DictEntry := ⟨PyData.keyHash P (Str.ofString "_escape_attrib"), (.str (Str.ofString "_escape_attrib") 2358), (.ref 179)⟩
noncomputable def o3_13 (P : Params) : Obj := ⟨.type "dict", none, .dict [n3_19 P, n3_1 P, n3_2 P, n3_3 P, n3_4 P, n3_5 P, n3_6 P, n3_7 P, n3_8 P, n3_9 P, n3_11 P, n3_13 P, n3_15 P, n3_16 P, n3_17 P, n3_18 P, n3_20 P, n3_21 P, n3_22 P].toArray 19, [].toArray⟩
noncomputable def o12_13 (P : Params) : Obj := ⟨.none, none, .fields [(.int 1 0), (.int 0 0), (.ref 20), (.int 5 0), (.int 0 0), (.ref 27), (.int 62 0), (.int 0 0), (.ref 93), (.int 72 0), (.int 0 0), (.ref 111), (.int 75 0), (.int 0 0), (.ref 157), (.int 81 0), (.int 0 0), (.ref 164), (.int 83 0), (.int 0 0), (.ref 171), (.int 94 0), (.int 0 0), (.ref 178)].toArray, [].toArray⟩
noncomputable def n3_23 (P : Params) : DictEntry := ⟨PyData.keyHash P (Str.ofString "_escape_attrib_html"), (.str (Str.ofString "_escape_attrib_html") 2365), (.ref 186)⟩
noncomputable def o3_14 (P : Params) : Obj := ⟨.type "dict", none, .dict [n3_19 P, n3_1 P, n3_2 P, n3_3 P, n3_4 P, n3_5 P, n3_6 P, n3_7 P, n3_8 P, n3_9 P, n3_11 P, n3_13 P, n3_15 P, n3_16 P, n3_17 P, n3_18 P, n3_20 P, n3_21 P, n3_22 P, n3_23 P].toArray 20, [].toArray⟩
noncomputable def o12_14 (P : Params) : Obj := ⟨.none, none, .fields [(.int 1 0), (.int 0 0), (.ref 20), (.int 5 0), (.int 0 0), (.ref 27), (.int 62 0), (.int 0 0), (.ref 93), (.int 72 0), (.int 0 0), (.ref 111), (.int 75 0), (.int 0 0), (.ref 157), (.int 81 0), (.int 0 0), (.ref 164), (.int 83 0), (.int 0 0), (.ref 171), (.int 94 0), (.int 0 0), (.ref 178), (.int 113 0), (.int 0 0), (.ref 185)].toArray, [].toArray⟩
noncomputable def n3_24 (P : Params) : DictEntry := ⟨PyData.keyHash P (Str.ofString "_escape_cdata_c14n"), (.str (Str.ofString "_escape_cdata_c14n") 2372), (.ref 193)⟩
noncomputable def o3_15 (P : Params) : Obj := ⟨.type "dict", none, .dict [n3_19 P, n3_1 P, n3_2 P, n3_3 P, n3_4 P, n3_5 P, n3_6 P, n3_7 P, n3_8 P, n3_9 P, n3_11 P, n3_13 P, n3_15 P, n3_16 P, n3_17 P, n3_18 P, n3_20 P, n3_21 P, n3_22 P, n3_23 P, n3_24 P].toArray 21, [].toArray⟩
noncomputable def o12_15 (P : Params) : Obj := ⟨.none, none, .fields [(.int 1 0), (.int 0 0), (.ref 20), (.int 5 0), (.int 0 0), (.ref 27), (.int 62 0), (.int 0 0), (.ref 93), (.int 72 0), (.int 0 0), (.ref 111), (.int 75 0), (.int 0 0), (.ref 157), (.int 81 0), (.int 0 0), (.ref 164), (.int 83 0), (.int 0 0), (.ref 171), (.int 94 0), (.int 0 0), (.ref 178), (.int 113 0), (.int 0 0), (.ref 185), (.int 124 0), (.int 0 0), (.ref 192)].toArray, [].toArray⟩
noncomputable def n3_25 (P : Params) : DictEntry := ⟨PyData.keyHash P (Str.ofString "__name__"), (.str (Str.ofString "__name__") 165), (.str (Str.ofString "law_wb0095_01") 2373)⟩
noncomputable def o3_16 (P : Params) : Obj := ⟨.type "dict", none, .dict [n3_25 P, n3_1 P, n3_2 P, n3_3 P, n3_4 P, n3_5 P, n3_6 P, n3_7 P, n3_8 P, n3_9 P, n3_11 P, n3_13 P, n3_15 P, n3_16 P, n3_17 P, n3_18 P, n3_20 P, n3_21 P, n3_22 P, n3_23 P, n3_24 P].toArray 21, [].toArray⟩
noncomputable def o12_16 (P : Params) : Obj := ⟨.none, none, .fields [(.int 1 0), (.int 0 0), (.ref 20), (.int 5 0), (.int 0 0), (.ref 27), (.int 62 0), (.int 0 0), (.ref 93), (.int 72 0), (.int 0 0), (.ref 111), (.int 75 0), (.int 0 0), (.ref 157), (.int 81 0), (.int 0 0), (.ref 164), (.int 83 0), (.int 0 0), (.ref 171), (.int 94 0), (.int 0 0), (.ref 178), (.int 113 0), (.int 0 0), (.ref 185), (.int 124 0), (.int 0 0), (.ref 192)].toArray, [].toArray⟩
noncomputable def n3_26 (P : Params) : DictEntry := ⟨PyData.keyHash P (Str.ofString "_law_taken"), (.str (Str.ofString "_law_taken") 2383), (.ref 200)⟩
noncomputable def o3_17 (P : Params) : Obj := ⟨.type "dict", none, .dict [n3_25 P, n3_1 P, n3_2 P, n3_3 P, n3_4 P, n3_5 P, n3_6 P, n3_7 P, n3_8 P, n3_9 P, n3_11 P, n3_13 P, n3_15 P, n3_16 P, n3_17 P, n3_18 P, n3_20 P, n3_21 P, n3_22 P, n3_23 P, n3_24 P, n3_26 P].toArray 22, [].toArray⟩
noncomputable def o12_17 (P : Params) : Obj := ⟨.none, none, .fields [(.int 1 0), (.int 0 0), (.ref 20), (.int 5 0), (.int 0 0), (.ref 27), (.int 62 0), (.int 0 0), (.ref 93), (.int 72 0), (.int 0 0), (.ref 111), (.int 75 0), (.int 0 0), (.ref 157), (.int 81 0), (.int 0 0), (.ref 164), (.int 83 0), (.int 0 0), (.ref 171), (.int 94 0), (.int 0 0), (.ref 178), (.int 113 0), (.int 0 0), (.ref 185), (.int 124 0), (.int 0 0), (.ref 192), (.int 138 0), (.int 0 0), (.ref 199)].toArray, [].toArray⟩
noncomputable def n3_27 (P : Params) : DictEntry := ⟨PyData.keyHash P (Str.ofString "_law_drawn"), (.str (Str.ofString "_law_drawn") 2389), (.ref 205)⟩
noncomputable def o3_18 (P : Params) : Obj := ⟨.type "dict", none, .dict [n3_25 P, n3_1 P, n3_2 P, n3_3 P, n3_4 P, n3_5 P, n3_6 P, n3_7 P, n3_8 P, n3_9 P, n3_11 P, n3_13 P, n3_15 P, n3_16 P, n3_17 P, n3_18 P, n3_20 P, n3_21 P, n3_22 P, n3_23 P, n3_24 P, n3_26 P, n3_27 P].toArray 23, [].toArray⟩
noncomputable def o12_18 (P : Params) : Obj := ⟨.none, none, .fields [(.int 1 0), (.int 0 0), (.ref 20), (.int 5 0), (.int 0 0), (.ref 27), (.int 62 0), (.int 0 0), (.ref 93), (.int 72 0), (.int 0 0), (.ref 111), (.int 75 0), (.int 0 0), (.ref 157), (.int 81 0), (.int 0 0), (.ref 164), (.int 83 0), (.int 0 0), (.ref 171), (.int 94 0), (.int 0 0), (.ref 178), (.int 113 0), (.int 0 0), (.ref 185), (.int 124 0), (.int 0 0), (.ref 192), (.int 138 0), (.int 0 0), (.ref 199), (.int 145 0), (.int 0 0), (.ref 204)].toArray, [].toArray⟩
noncomputable def n3_28 (P : Params) : DictEntry := ⟨PyData.keyHash P (Str.ofString "_law_text"), (.str (Str.ofString "_law_text") 2395), (.ref 210)⟩
noncomputable def o3_19 (P : Params) : Obj := ⟨.type "dict", none, .dict [n3_25 P, n3_1 P, n3_2 P, n3_3 P, n3_4 P, n3_5 P, n3_6 P, n3_7 P, n3_8 P, n3_9 P, n3_11 P, n3_13 P, n3_15 P, n3_16 P, n3_17 P, n3_18 P, n3_20 P, n3_21 P, n3_22 P, n3_23 P, n3_24 P, n3_26 P, n3_27 P, n3_28 P].toArray 24, [].toArray⟩
noncomputable def o12_19 (P : Params) : Obj := ⟨.none, none, .fields [(.int 1 0), (.int 0 0), (.ref 20), (.int 5 0), (.int 0 0), (.ref 27), (.int 62 0), (.int 0 0), (.ref 93), (.int 72 0), (.int 0 0), (.ref 111), (.int 75 0), (.int 0 0), (.ref 157), (.int 81 0), (.int 0 0), (.ref 164), (.int 83 0), (.int 0 0), (.ref 171), (.int 94 0), (.int 0 0), (.ref 178), (.int 113 0), (.int 0 0), (.ref 185), (.int 124 0), (.int 0 0), (.ref 192), (.int 138 0), (.int 0 0), (.ref 199), (.int 145 0), (.int 0 0), (.ref 204), (.int 163 0), (.int 0 0), (.ref 209)].toArray, [].toArray⟩
noncomputable def n3_29 (P : Params) : DictEntry := ⟨PyData.keyHash P (Str.ofString "_law_escaped"), (.str (Str.ofString "_law_escaped") 2403), (.ref 217)⟩
noncomputable def o3_20 (P : Params) : Obj := ⟨.type "dict", none, .dict [n3_25 P, n3_1 P, n3_2 P, n3_3 P, n3_4 P, n3_5 P, n3_6 P, n3_7 P, n3_8 P, n3_9 P, n3_11 P, n3_13 P, n3_15 P, n3_16 P, n3_17 P, n3_18 P, n3_20 P, n3_21 P, n3_22 P, n3_23 P, n3_24 P, n3_26 P, n3_27 P, n3_28 P, n3_29 P].toArray 25, [].toArray⟩
noncomputable def o12_20 (P : Params) : Obj := ⟨.none, none, .fields [(.int 1 0), (.int 0 0), (.ref 20), (.int 5 0), (.int 0 0), (.ref 27), (.int 62 0), (.int 0 0), (.ref 93), (.int 72 0), (.int 0 0), (.ref 111), (.int 75 0), (.int 0 0), (.ref 157), (.int 81 0), (.int 0 0), (.ref 164), (.int 83 0), (.int 0 0), (.ref 171), (.int 94 0), (.int 0 0), (.ref 178), (.int 113 0), (.int 0 0), (.ref 185), (.int 124 0), (.int 0 0), (.ref 192), (.int 138 0), (.int 0 0), (.ref 199), (.int 145 0), (.int 0 0), (.ref 204), (.int 163 0), (.int 0 0), (.ref 209), (.int 169 0), (.int 0 0), (.ref 216)].toArray, [].toArray⟩
noncomputable def n3_30 (P : Params) : DictEntry := ⟨PyData.keyHash P (Str.ofString "_law_line"), (.str (Str.ofString "_law_line") 2409), (.ref 222)⟩
noncomputable def o3_21 (P : Params) : Obj := ⟨.type "dict", none, .dict [n3_25 P, n3_1 P, n3_2 P, n3_3 P, n3_4 P, n3_5 P, n3_6 P, n3_7 P, n3_8 P, n3_9 P, n3_11 P, n3_13 P, n3_15 P, n3_16 P, n3_17 P, n3_18 P, n3_20 P, n3_21 P, n3_22 P, n3_23 P, n3_24 P, n3_26 P, n3_27 P, n3_28 P, n3_29 P, n3_30 P].toArray 26, [].toArray⟩
noncomputable def o12_21 (P : Params) : Obj := ⟨.none, none, .fields [(.int 1 0), (.int 0 0), (.ref 20), (.int 5 0), (.int 0 0), (.ref 27), (.int 62 0), (.int 0 0), (.ref 93), (.int 72 0), (.int 0 0), (.ref 111), (.int 75 0), (.int 0 0), (.ref 157), (.int 81 0), (.int 0 0), (.ref 164), (.int 83 0), (.int 0 0), (.ref 171), (.int 94 0), (.int 0 0), (.ref 178), (.int 113 0), (.int 0 0), (.ref 185), (.int 124 0), (.int 0 0), (.ref 192), (.int 138 0), (.int 0 0), (.ref 199), (.int 145 0), (.int 0 0), (.ref 204), (.int 163 0), (.int 0 0), (.ref 209), (.int 169 0), (.int 0 0), (.ref 216), (.int 173 0), (.int 0 0), (.ref 221)].toArray, [].toArray⟩
noncomputable def n3_31 (P : Params) : DictEntry := ⟨PyData.keyHash P (Str.ofString "_law_cases"), (.str (Str.ofString "_law_cases") 2420), (.ref 229)⟩
noncomputable def o3_22 (P : Params) : Obj := ⟨.type "dict", none, .dict [n3_25 P, n3_1 P, n3_2 P, n3_3 P, n3_4 P, n3_5 P, n3_6 P, n3_7 P, n3_8 P, n3_9 P, n3_11 P, n3_13 P, n3_15 P, n3_16 P, n3_17 P, n3_18 P, n3_20 P, n3_21 P, n3_22 P, n3_23 P, n3_24 P, n3_26 P, n3_27 P, n3_28 P, n3_29 P, n3_30 P, n3_31 P].toArray 27, [].toArray⟩
noncomputable def o12_22 (P : Params) : Obj := ⟨.none, none, .fields [(.int 1 0), (.int 0 0), (.ref 20), (.int 5 0), (.int 0 0), (.ref 27), (.int 62 0), (.int 0 0), (.ref 93), (.int 72 0), (.int 0 0), (.ref 111), (.int 75 0), (.int 0 0), (.ref 157), (.int 81 0), (.int 0 0), (.ref 164), (.int 83 0), (.int 0 0), (.ref 171), (.int 94 0), (.int 0 0), (.ref 178), (.int 113 0), (.int 0 0), (.ref 185), (.int 124 0), (.int 0 0), (.ref 192), (.int 138 0), (.int 0 0), (.ref 199), (.int 145 0), (.int 0 0), (.ref 204), (.int 163 0), (.int 0 0), (.ref 209), (.int 169 0), (.int 0 0), (.ref 216), (.int 173 0), (.int 0 0), (.ref 221), (.int 180 0), (.int 0 0), (.ref 228)].toArray, [].toArray⟩
noncomputable def n3_32 (P : Params) : DictEntry := ⟨PyData.keyHash P (Str.ofString "_law_judged"), (.str (Str.ofString "_law_judged") 2426), (.ref 234)⟩
noncomputable def o3_23 (P : Params) : Obj := ⟨.type "dict", none, .dict [n3_25 P, n3_1 P, n3_2 P, n3_3 P, n3_4 P, n3_5 P, n3_6 P, n3_7 P, n3_8 P, n3_9 P, n3_11 P, n3_13 P, n3_15 P, n3_16 P, n3_17 P, n3_18 P, n3_20 P, n3_21 P, n3_22 P, n3_23 P, n3_24 P, n3_26 P, n3_27 P, n3_28 P, n3_29 P, n3_30 P, n3_31 P, n3_32 P].toArray 28, [].toArray⟩
noncomputable def o12_23 (P : Params) : Obj := ⟨.none, none, .fields [(.int 1 0), (.int 0 0), (.ref 20), (.int 5 0), (.int 0 0), (.ref 27), (.int 62 0), (.int 0 0), (.ref 93), (.int 72 0), (.int 0 0), (.ref 111), (.int 75 0), (.int 0 0), (.ref 157), (.int 81 0), (.int 0 0), (.ref 164), (.int 83 0), (.int 0 0), (.ref 171), (.int 94 0), (.int 0 0), (.ref 178), (.int 113 0), (.int 0 0), (.ref 185), (.int 124 0), (.int 0 0), (.ref 192), (.int 138 0), (.int 0 0), (.ref 199), (.int 145 0), (.int 0 0), (.ref 204), (.int 163 0), (.int 0 0), (.ref 209), (.int 169 0), (.int 0 0), (.ref 216), (.int 173 0), (.int 0 0), (.ref 221), (.int 180 0), (.int 0 0), (.ref 228), (.int 189 0), (.int 0 0), (.ref 233)].toArray, [].toArray⟩
noncomputable def n3_33 (P : Params) : DictEntry := ⟨PyData.keyHash P (Str.ofString "_law_plain"), (.str (Str.ofString "_law_plain") 2432), (.ref 239)⟩
noncomputable def o3_24 (P : Params) : Obj := ⟨.type "dict", none, .dict [n3_25 P, n3_1 P, n3_2 P, n3_3 P, n3_4 P, n3_5 P, n3_6 P, n3_7 P, n3_8 P, n3_9 P, n3_11 P, n3_13 P, n3_15 P, n3_16 P, n3_17 P, n3_18 P, n3_20 P, n3_21 P, n3_22 P, n3_23 P, n3_24 P, n3_26 P, n3_27 P, n3_28 P, n3_29 P, n3_30 P, n3_31 P, n3_32 P, n3_33 P].toArray 29, [].toArray⟩
noncomputable def o12_24 (P : Params) : Obj := ⟨.none, none, .fields [(.int 1 0), (.int 0 0), (.ref 20), (.int 5 0), (.int 0 0), (.ref 27), (.int 62 0), (.int 0 0), (.ref 93), (.int 72 0), (.int 0 0), (.ref 111), (.int 75 0), (.int 0 0), (.ref 157), (.int 81 0), (.int 0 0), (.ref 164), (.int 83 0), (.int 0 0), (.ref 171), (.int 94 0), (.int 0 0), (.ref 178), (.int 113 0), (.int 0 0), (.ref 185), (.int 124 0), (.int 0 0), (.ref 192), (.int 138 0), (.int 0 0), (.ref 199), (.int 145 0), (.int 0 0), (.ref 204), (.int 163 0), (.int 0 0), (.ref 209), (.int 169 0), (.int 0 0), (.ref 216), (.int 173 0), (.int 0 0), (.ref 221), (.int 180 0), (.int 0 0), (.ref 228), (.int 189 0), (.int 0 0), (.ref 233), (.int 205 0), (.int 0 0), (.ref 238)].toArray, [].toArray⟩
noncomputable def n3_34 (P : Params) : DictEntry := ⟨PyData.keyHash P (Str.ofString "_law_letters"), (.str (Str.ofString "_law_letters") 2438), (.ref 244)⟩
noncomputable def o3_25 (P : Params) : Obj := ⟨.type "dict", none, .dict [n3_25 P, n3_1 P, n3_2 P, n3_3 P, n3_4 P, n3_5 P, n3_6 P, n3_7 P, n3_8 P, n3_9 P, n3_11 P, n3_13 P, n3_15 P, n3_16 P, n3_17 P, n3_18 P, n3_20 P, n3_21 P, n3_22 P, n3_23 P, n3_24 P, n3_26 P, n3_27 P, n3_28 P, n3_29 P, n3_30 P, n3_31 P, n3_32 P, n3_33 P, n3_34 P].toArray 30, [].toArray⟩
noncomputable def o12_25 (P : Params) : Obj := ⟨.none, none, .fields [(.int 1 0), (.int 0 0), (.ref 20), (.int 5 0), (.int 0 0), (.ref 27), (.int 62 0), (.int 0 0), (.ref 93), (.int 72 0), (.int 0 0), (.ref 111), (.int 75 0), (.int 0 0), (.ref 157), (.int 81 0), (.int 0 0), (.ref 164), (.int 83 0), (.int 0 0), (.ref 171), (.int 94 0), (.int 0 0), (.ref 178), (.int 113 0), (.int 0 0), (.ref 185), (.int 124 0), (.int 0 0), (.ref 192), (.int 138 0), (.int 0 0), (.ref 199), (.int 145 0), (.int 0 0), (.ref 204), (.int 163 0), (.int 0 0), (.ref 209), (.int 169 0), (.int 0 0), (.ref 216), (.int 173 0), (.int 0 0), (.ref 221), (.int 180 0), (.int 0 0), (.ref 228), (.int 189 0), (.int 0 0), (.ref 233), (.int 205 0), (.int 0 0), (.ref 238), (.int 210 0), (.int 0 0), (.ref 243)].toArray, [].toArray⟩
noncomputable def n3_35 (P : Params) : DictEntry := ⟨PyData.keyHash P (Str.ofString "law"), (.str (Str.ofString "law") 2444), (.ref 249)⟩
noncomputable def o3_26 (P : Params) : Obj := ⟨.type "dict", none, .dict [n3_25 P, n3_1 P, n3_2 P, n3_3 P, n3_4 P, n3_5 P, n3_6 P, n3_7 P, n3_8 P, n3_9 P, n3_11 P, n3_13 P, n3_15 P, n3_16 P, n3_17 P, n3_18 P, n3_20 P, n3_21 P, n3_22 P, n3_23 P, n3_24 P, n3_26 P, n3_27 P, n3_28 P, n3_29 P, n3_30 P, n3_31 P, n3_32 P, n3_33 P, n3_34 P, n3_35 P].toArray 31, [].toArray⟩
noncomputable def o12_26 (P : Params) : Obj := ⟨.none, none, .fields [(.int 1 0), (.int 0 0), (.ref 20), (.int 5 0), (.int 0 0), (.ref 27), (.int 62 0), (.int 0 0), (.ref 93), (.int 72 0), (.int 0 0), (.ref 111), (.int 75 0), (.int 0 0), (.ref 157), (.int 81 0), (.int 0 0), (.ref 164), (.int 83 0), (.int 0 0), (.ref 171), (.int 94 0), (.int 0 0), (.ref 178), (.int 113 0), (.int 0 0), (.ref 185), (.int 124 0), (.int 0 0), (.ref 192), (.int 138 0), (.int 0 0), (.ref 199), (.int 145 0), (.int 0 0), (.ref 204), (.int 163 0), (.int 0 0), (.ref 209), (.int 169 0), (.int 0 0), (.ref 216), (.int 173 0), (.int 0 0), (.ref 221), (.int 180 0), (.int 0 0), (.ref 228), (.int 189 0), (.int 0 0), (.ref 233), (.int 205 0), (.int 0 0), (.ref 238), (.int 210 0), (.int 0 0), (.ref 243), (.int 213 0), (.int 0 0), (.ref 248)].toArray, [].toArray⟩
noncomputable def insL : Nat → BT → List Obj → BT
  | _, t, [] => t
  | n, t, o :: l => insL (n + 1) (t.ins n o) l
noncomputable def T_b (P : Params) : BT := (.node (boot_o_0 P) (.node (boot_o_1 P) (.node (o3_b P) (.node (boot_o_7 P) .nil .nil) (.node (o11 P) .nil .nil)) (.node (boot_o_5 P) (.node (boot_o_9 P) .nil .nil) (.node (o13 P) .nil .nil))) (.node (boot_o_2 P) (.node (boot_o_4 P) (.node (boot_o_8 P) .nil .nil) (.node (o12_b P) .nil .nil)) (.node (boot_o_6 P) (.node (boot_o_10 P) .nil .nil) (.node (o14 P) .nil .nil))))
noncomputable def T_0 (P : Params) : BT := ((insL 15 (T_b P) [o15 P, o16 P, o17 P, o18 P, o19 P, o20 P, o21 P]).set 3 fun _ => o3_0 P).set 12 fun _ => o12_0 P
noncomputable def T_1 (P : Params) : BT := ((T_0 P).set 3 fun _ => o3_1 P).set 12 fun _ => o12_1 P
noncomputable def T_2 (P : Params) : BT := ((insL 22 (T_1 P) [o22 P, o23 P, o24 P, o25 P, o26 P, o27 P, o28 P, o29 P, o30 P, o31 P, o32 P, o33 P, o34 P, o35 P, o36 P, o37 P, o38 P, o39 P, o40 P, o41 P, o42 P, o43 P, o44 P, o45 P, o46 P, o47 P, o48 P, o49 P, o50 P, o51 P, o52 P, o53 P, o54 P, o55 P, o56 P, o57 P, o58 P, o59 P, o60 P, o61 P, o62 P, o63 P, o64 P, o65 P, o66 P, o67 P, o68 P, o69 P, o70 P, o71 P, o72 P, o73 P, o74 P, o75 P, o76 P, o77 P, o78 P, o79 P, o80 P, o81 P, o82 P, o83 P, o84 P, o85 P, o86 P, o87 P]).set 3 fun _ => o3_2 P).set 12 fun _ => o12_2 P
noncomputable def T_3 (P : Params) : BT := ((T_2 P).set 3 fun _ => o3_3 P).set 12 fun _ => o12_3 P
noncomputable def T_4 (P : Params) : BT := ((insL 88 (T_3 P) [o88 P, o89 P, o90 P, o91 P, o92 P, o93 P, o94 P]).set 3 fun _ => o3_4 P).set 12 fun _ => o12_4 P
noncomputable def T_5 (P : Params) : BT := ((T_4 P).set 3 fun _ => o3_5 P).set 12 fun _ => o12_5 P
noncomputable def T_6 (P : Params) : BT := ((insL 95 (T_5 P) [o95 P, o96 P, o97 P, o98 P, o99 P, o100 P, o101 P, o102 P, o103 P, o104 P, o105 P]).set 3 fun _ => o3_6 P).set 12 fun _ => o12_6 P
noncomputable def T_7 (P : Params) : BT := ((insL 106 (T_6 P) [o106 P, o107 P, o108 P, o109 P, o110 P, o111 P, o112 P]).set 3 fun _ => o3_7 P).set 12 fun _ => o12_7 P
noncomputable def T_8 (P : Params) : BT := ((insL 113 (T_7 P) [o113 P, o114 P, o115 P, o116 P, o117 P, o118 P, o119 P, o120 P, o121 P, o122 P, o123 P, o124 P, o125 P, o126 P, o127 P, o128 P, o129 P, o130 P, o131 P, o132 P, o133 P, o134 P, o135 P, o136 P, o137 P, o138 P, o139 P, o140 P, o141 P, o142 P, o143 P, o144 P, o145 P, o146 P, o147 P, o148 P, o149 P, o150 P, o151 P]).set 3 fun _ => o3_8 P).set 12 fun _ => o12_8 P
noncomputable def T_9 (P : Params) : BT := ((insL 152 (T_8 P) [o152 P, o153 P, o154 P, o155 P, o156 P, o157 P, o158 P]).set 3 fun _ => o3_9 P).set 12 fun _ => o12_9 P
noncomputable def T_10 (P : Params) : BT := ((T_9 P).set 3 fun _ => o3_10 P).set 12 fun _ => o12_10 P
noncomputable def T_11 (P : Params) : BT := ((insL 159 (T_10 P) [o159 P, o160 P, o161 P, o162 P, o163 P, o164 P, o165 P]).set 3 fun _ => o3_11 P).set 12 fun _ => o12_11 P
noncomputable def T_12 (P : Params) : BT := ((insL 166 (T_11 P) [o166 P, o167 P, o168 P, o169 P, o170 P, o171 P, o172 P]).set 3 fun _ => o3_12 P).set 12 fun _ => o12_12 P
noncomputable def T_13 (P : Params) : BT := ((insL 173 (T_12 P) [o173 P, o174 P, o175 P, o176 P, o177 P, o178 P, o179 P]).set 3 fun _ => o3_13 P).set 12 fun _ => o12_13 P
noncomputable def T_14 (P : Params) : BT := ((insL 180 (T_13 P) [o180 P, o181 P, o182 P, o183 P, o184 P, o185 P, o186 P]).set 3 fun _ => o3_14 P).set 12 fun _ => o12_14 P
noncomputable def T_15 (P : Params) : BT := ((insL 187 (T_14 P) [o187 P, o188 P, o189 P, o190 P, o191 P, o192 P, o193 P]).set 3 fun _ => o3_15 P).set 12 fun _ => o12_15 P
noncomputable def T_16 (P : Params) : BT := ((T_15 P).set 3 fun _ => o3_16 P).set 12 fun _ => o12_16 P
noncomputable def T_17 (P : Params) : BT := ((insL 194 (T_16 P) [o194 P, o195 P, o196 P, o197 P, o198 P, o199 P, o200 P]).set 3 fun _ => o3_17 P).set 12 fun _ => o12_17 P
noncomputable def T_18 (P : Params) : BT := ((insL 201 (T_17 P) [o201 P, o202 P, o203 P, o204 P, o205 P]).set 3 fun _ => o3_18 P).set 12 fun _ => o12_18 P
noncomputable def T_19 (P : Params) : BT := ((insL 206 (T_18 P) [o206 P, o207 P, o208 P, o209 P, o210 P]).set 3 fun _ => o3_19 P).set 12 fun _ => o12_19 P
noncomputable def T_20 (P : Params) : BT := ((insL 211 (T_19 P) [o211 P, o212 P, o213 P, o214 P, o215 P, o216 P, o217 P]).set 3 fun _ => o3_20 P).set 12 fun _ => o12_20 P
noncomputable def T_21 (P : Params) : BT := ((insL 218 (T_20 P) [o218 P, o219 P, o220 P, o221 P, o222 P]).set 3 fun _ => o3_21 P).set 12 fun _ => o12_21 P
noncomputable def T_22 (P : Params) : BT := ((insL 223 (T_21 P) [o223 P, o224 P, o225 P, o226 P, o227 P, o228 P, o229 P]).set 3 fun _ => o3_22 P).set 12 fun _ => o12_22 P
noncomputable def T_23 (P : Params) : BT := ((insL 230 (T_22 P) [o230 P, o231 P, o232 P, o233 P, o234 P]).set 3 fun _ => o3_23 P).set 12 fun _ => o12_23 P
noncomputable def T_24 (P : Params) : BT := ((insL 235 (T_23 P) [o235 P, o236 P, o237 P, o238 P, o239 P]).set 3 fun _ => o3_24 P).set 12 fun _ => o12_24 P
noncomputable def T_25 (P : Params) : BT := ((insL 240 (T_24 P) [o240 P, o241 P, o242 P, o243 P, o244 P]).set 3 fun _ => o3_25 P).set 12 fun _ => o12_25 P
noncomputable def T_26 (P : Params) : BT := ((insL 245 (T_25 P) [o245 P, o246 P, o247 P, o248 P, o249 P]).set 3 fun _ => o3_26 P).set 12 fun _ => o12_26 P

noncomputable def env0 : Env := { scope := pw.main.scope, locals := mainNs, globals := mainNs, cells := [], code := .ref 13, frame := some 14 }
noncomputable def cd0 : Code := .body (behindTheImports pw) env0
noncomputable def life0 : Life := {}
noncomputable def St (T : Params → BT) (n toks : Nat) (w : World) (os : OsState) : SharedT := ⟨T w.params, n, life0, #[], {}, toks, os⟩
noncomputable def pos0 : Pos := ⟨0, 0, 0, 0⟩

end Mine

namespace Mine
open PySem PySem.W
theorem pcT0 (w : World) (os : OsState) : segRunT treeTable pw w 11 (some (.ref 6)) 1 30 (St T_b 15 187 w os) (piecesOf [top 0] env0 cd0 pos0 [topFrame pos0]) = some (.next, St T_0 22 194 w os, cd0, ⟨1, 0, 3, 12⟩) := by
  rw [PySem.W.Fast.te10110043849684766642, PySem.W.Fast.te14364793385576792824]; kernel_rfl
theorem pcT1 (w : World) (os : OsState) : segRunT treeTable pw w 11 (some (.ref 6)) 1 10 (St T_0 22 194 w os) (piecesOf [top 1] env0 cd0 ⟨1, 0, 3, 12⟩ [topFrame pos0]) = some (.next, St T_1 22 196 w os, cd0, ⟨4, 0, 4, 8⟩) := by
  rw [PySem.W.Fast.te10110043849684766642, PySem.W.Fast.te14364793385576792824]; kernel_rfl
theorem pcT3 (w : World) (os : OsState) : segRunT treeTable pw w 11 (some (.ref 6)) 1 10 (St T_2 88 296 w os) (piecesOf [top 3] env0 cd0 ⟨5, 0, 60, 16⟩ [topFrame pos0]) = some (.next, St T_3 88 298 w os, cd0, ⟨61, 0, 61, 8⟩) := by
  rw [PySem.W.Fast.te10110043849684766642, PySem.W.Fast.te14364793385576792824]; kernel_rfl
theorem pcT4 (w : World) (os : OsState) : segRunT treeTable pw w 11 (some (.ref 6)) 1 33 (St T_3 88 298 w os) (piecesOf [top 4] env0 cd0 ⟨61, 0, 61, 8⟩ [topFrame pos0]) = some (.next, St T_4 95 308 w os, cd0, ⟨62, 0, 69, 14⟩) := by
  rw [PySem.W.Fast.te10110043849684766642, PySem.W.Fast.te14364793385576792824]; kernel_rfl
theorem pcT5 (w : World) (os : OsState) : segRunT treeTable pw w 11 (some (.ref 6)) 1 10 (St T_4 95 308 w os) (piecesOf [top 5] env0 cd0 ⟨62, 0, 69, 14⟩ [topFrame pos0]) = some (.next, St T_5 95 310 w os, cd0, ⟨70, 0, 70, 8⟩) := by
  rw [PySem.W.Fast.te10110043849684766642, PySem.W.Fast.te14364793385576792824]; kernel_rfl
theorem pcT7 (w : World) (os : OsState) : segRunT treeTable pw w 11 (some (.ref 6)) 1 30 (St T_6 106 370 w os) (piecesOf [top 7] env0 cd0 ⟨71, 0, 71, 6⟩ [topFrame pos0]) = some (.next, St T_7 113 377 w os, cd0, ⟨72, 0, 73, 30⟩) := by
  rw [PySem.W.Fast.te10110043849684766642, PySem.W.Fast.te14364793385576792824]; kernel_rfl
end Mine

namespace Mine
open PySem PySem.W
theorem pcT2_false (w : World) (os : OsState) : segRunT treeTable pw (w.withFollow "special-get-raises" false) 11 (some (.ref 6)) 1 493 (St T_1 22 196 (w.withFollow "special-get-raises" false) os) (piecesOf [top 2] env0 cd0 ⟨4, 0, 4, 8⟩ [topFrame pos0]) = some (.next, St T_2 88 296 (w.withFollow "special-get-raises" false) os, cd0, ⟨5, 0, 60, 16⟩) := by
  rw [PySem.W.Fast.te10110043849684766642, PySem.W.Fast.te14364793385576792824]; kernel_rfl
theorem pcT2_true (w : World) (os : OsState) : segRunT treeTable pw (w.withFollow "special-get-raises" true) 11 (some (.ref 6)) 1 493 (St T_1 22 196 (w.withFollow "special-get-raises" true) os) (piecesOf [top 2] env0 cd0 ⟨4, 0, 4, 8⟩ [topFrame pos0]) = some (.next, St T_2 88 296 (w.withFollow "special-get-raises" true) os, cd0, ⟨5, 0, 60, 16⟩) := by
  rw [PySem.W.Fast.te10110043849684766642, PySem.W.Fast.te14364793385576792824]; kernel_rfl
theorem pcT2 : ∀ (w : World) (os : OsState), segRunT treeTable pw w 11 (some (.ref 6)) 1 493 (St T_1 22 196 w os) (piecesOf [top 2] env0 cd0 ⟨4, 0, 4, 8⟩ [topFrame pos0]) = some (.next, St T_2 88 296 w os, cd0, ⟨5, 0, 60, 16⟩) := byRow2 "special-get-raises" (P := fun w => ∀ os : OsState, segRunT treeTable pw w 11 (some (.ref 6)) 1 493 (St T_1 22 196 w os) (piecesOf [top 2] env0 cd0 ⟨4, 0, 4, 8⟩ [topFrame pos0]) = some (.next, St T_2 88 296 w os, cd0, ⟨5, 0, 60, 16⟩)) pcT2_false pcT2_true
end Mine

namespace Mine
open PySem PySem.W
theorem pcT6_false_false (w : World) (os : OsState) : segRunT treeTable pw ((w.withFollow "set-order" false).withFollow "special-get-raises" false) 11 (some (.ref 6)) 1 999 (St T_5 95 310 ((w.withFollow "set-order" false).withFollow "special-get-raises" false) os) (piecesOf [top 6] env0 cd0 ⟨70, 0, 70, 8⟩ [topFrame pos0]) = some (.next, St T_6 106 370 ((w.withFollow "set-order" false).withFollow "special-get-raises" false) os, cd0, ⟨71, 0, 71, 6⟩) := by
  rw [PySem.W.Fast.te10110043849684766642, PySem.W.Fast.te14364793385576792824]; kernel_rfl
theorem pcT6_false_true (w : World) (os : OsState) : segRunT treeTable pw ((w.withFollow "set-order" true).withFollow "special-get-raises" false) 11 (some (.ref 6)) 1 999 (St T_5 95 310 ((w.withFollow "set-order" true).withFollow "special-get-raises" false) os) (piecesOf [top 6] env0 cd0 ⟨70, 0, 70, 8⟩ [topFrame pos0]) = some (.next, St T_6 106 370 ((w.withFollow "set-order" true).withFollow "special-get-raises" false) os, cd0, ⟨71, 0, 71, 6⟩) := by
  rw [PySem.W.Fast.te10110043849684766642, PySem.W.Fast.te14364793385576792824]; kernel_rfl
theorem pcT6_true_false (w : World) (os : OsState) : segRunT treeTable pw ((w.withFollow "set-order" false).withFollow "special-get-raises" true) 11 (some (.ref 6)) 1 999 (St T_5 95 310 ((w.withFollow "set-order" false).withFollow "special-get-raises" true) os) (piecesOf [top 6] env0 cd0 ⟨70, 0, 70, 8⟩ [topFrame pos0]) = some (.next, St T_6 106 370 ((w.withFollow "set-order" false).withFollow "special-get-raises" true) os, cd0, ⟨71, 0, 71, 6⟩) := by
  rw [PySem.W.Fast.te10110043849684766642, PySem.W.Fast.te14364793385576792824]; kernel_rfl
theorem pcT6_true_true (w : World) (os : OsState) : segRunT treeTable pw ((w.withFollow "set-order" true).withFollow "special-get-raises" true) 11 (some (.ref 6)) 1 999 (St T_5 95 310 ((w.withFollow "set-order" true).withFollow "special-get-raises" true) os) (piecesOf [top 6] env0 cd0 ⟨70, 0, 70, 8⟩ [topFrame pos0]) = some (.next, St T_6 106 370 ((w.withFollow "set-order" true).withFollow "special-get-raises" true) os, cd0, ⟨71, 0, 71, 6⟩) := by
  rw [PySem.W.Fast.te10110043849684766642, PySem.W.Fast.te14364793385576792824]; kernel_rfl
theorem pcT6_false : ∀ (w : World) (os : OsState), segRunT treeTable pw (w.withFollow "special-get-raises" false) 11 (some (.ref 6)) 1 999 (St T_5 95 310 (w.withFollow "special-get-raises" false) os) (piecesOf [top 6] env0 cd0 ⟨70, 0, 70, 8⟩ [topFrame pos0]) = some (.next, St T_6 106 370 (w.withFollow "special-get-raises" false) os, cd0, ⟨71, 0, 71, 6⟩) := byRow2 "set-order" (P := fun w => ∀ os : OsState, segRunT treeTable pw (w.withFollow "special-get-raises" false) 11 (some (.ref 6)) 1 999 (St T_5 95 310 (w.withFollow "special-get-raises" false) os) (piecesOf [top 6] env0 cd0 ⟨70, 0, 70, 8⟩ [topFrame pos0]) = some (.next, St T_6 106 370 (w.withFollow "special-get-raises" false) os, cd0, ⟨71, 0, 71, 6⟩)) pcT6_false_false pcT6_false_true
theorem pcT6_true : ∀ (w : World) (os : OsState), segRunT treeTable pw (w.withFollow "special-get-raises" true) 11 (some (.ref 6)) 1 999 (St T_5 95 310 (w.withFollow "special-get-raises" true) os) (piecesOf [top 6] env0 cd0 ⟨70, 0, 70, 8⟩ [topFrame pos0]) = some (.next, St T_6 106 370 (w.withFollow "special-get-raises" true) os, cd0, ⟨71, 0, 71, 6⟩) := byRow2 "set-order" (P := fun w => ∀ os : OsState, segRunT treeTable pw (w.withFollow "special-get-raises" true) 11 (some (.ref 6)) 1 999 (St T_5 95 310 (w.withFollow "special-get-raises" true) os) (piecesOf [top 6] env0 cd0 ⟨70, 0, 70, 8⟩ [topFrame pos0]) = some (.next, St T_6 106 370 (w.withFollow "special-get-raises" true) os, cd0, ⟨71, 0, 71, 6⟩)) pcT6_true_false pcT6_true_true
theorem pcT6 : ∀ (w : World) (os : OsState), segRunT treeTable pw w 11 (some (.ref 6)) 1 999 (St T_5 95 310 w os) (piecesOf [top 6] env0 cd0 ⟨70, 0, 70, 8⟩ [topFrame pos0]) = some (.next, St T_6 106 370 w os, cd0, ⟨71, 0, 71, 6⟩) := byRow2 "special-get-raises" (P := fun w => ∀ os : OsState, segRunT treeTable pw w 11 (some (.ref 6)) 1 999 (St T_5 95 310 w os) (piecesOf [top 6] env0 cd0 ⟨70, 0, 70, 8⟩ [topFrame pos0]) = some (.next, St T_6 106 370 w os, cd0, ⟨71, 0, 71, 6⟩)) pcT6_false pcT6_true
end Mine

namespace Mine
open PySem PySem.W
theorem pcT9 (w : World) (os : OsState) : segRunT treeTable pw w 11 (some (.ref 6)) 1 31 (St T_8 152 2328 w os) (piecesOf [top 9] env0 cd0 ⟨74, 0, 74, 13⟩ [topFrame pos0]) = some (.next, St T_9 159 2336 w os, cd0, ⟨75, 0, 79, 23⟩) := by
  rw [PySem.W.Fast.te10110043849684766642, PySem.W.Fast.te14364793385576792824]; kernel_rfl
theorem pcT10 (w : World) (os : OsState) : segRunT treeTable pw w 11 (some (.ref 6)) 1 10 (St T_9 159 2336 w os) (piecesOf [top 10] env0 cd0 ⟨75, 0, 79, 23⟩ [topFrame pos0]) = some (.next, St T_10 159 2338 w os, cd0, ⟨80, 0, 80, 8⟩) := by
  rw [PySem.W.Fast.te10110043849684766642, PySem.W.Fast.te14364793385576792824]; kernel_rfl
theorem pcT11 (w : World) (os : OsState) : segRunT treeTable pw w 11 (some (.ref 6)) 1 30 (St T_10 159 2338 w os) (piecesOf [top 11] env0 cd0 ⟨80, 0, 80, 8⟩ [topFrame pos0]) = some (.next, St T_11 166 2345 w os, cd0, ⟨81, 0, 82, 82⟩) := by
  rw [PySem.W.Fast.te10110043849684766642, PySem.W.Fast.te14364793385576792824]; kernel_rfl
theorem pcT12 (w : World) (os : OsState) : segRunT treeTable pw w 11 (some (.ref 6)) 1 30 (St T_11 166 2345 w os) (piecesOf [top 12] env0 cd0 ⟨81, 0, 82, 82⟩ [topFrame pos0]) = some (.next, St T_12 173 2352 w os, cd0, ⟨83, 0, 93, 40⟩) := by
  rw [PySem.W.Fast.te10110043849684766642, PySem.W.Fast.te14364793385576792824]; kernel_rfl
theorem pcT13 (w : World) (os : OsState) : segRunT treeTable pw w 11 (some (.ref 6)) 1 30 (St T_12 173 2352 w os) (piecesOf [top 13] env0 cd0 ⟨83, 0, 93, 40⟩ [topFrame pos0]) = some (.next, St T_13 180 2359 w os, cd0, ⟨94, 0, 112, 40⟩) := by
  rw [PySem.W.Fast.te10110043849684766642, PySem.W.Fast.te14364793385576792824]; kernel_rfl
theorem pcT14 (w : World) (os : OsState) : segRunT treeTable pw w 11 (some (.ref 6)) 1 30 (St T_13 180 2359 w os) (piecesOf [top 14] env0 cd0 ⟨94, 0, 112, 40⟩ [topFrame pos0]) = some (.next, St T_14 187 2366 w os, cd0, ⟨113, 0, 123, 40⟩) := by
  rw [PySem.W.Fast.te10110043849684766642, PySem.W.Fast.te14364793385576792824]; kernel_rfl
theorem pcT15 (w : World) (os : OsState) : segRunT treeTable pw w 11 (some (.ref 6)) 1 30 (St T_14 187 2366 w os) (piecesOf [top 15] env0 cd0 ⟨113, 0, 123, 40⟩ [topFrame pos0]) = some (.next, St T_15 194 2373 w os, cd0, ⟨124, 0, 136, 40⟩) := by
  rw [PySem.W.Fast.te10110043849684766642, PySem.W.Fast.te14364793385576792824]; kernel_rfl
theorem pcT16 (w : World) (os : OsState) : segRunT treeTable pw w 11 (some (.ref 6)) 1 10 (St T_15 194 2373 w os) (piecesOf [top 16] env0 cd0 ⟨124, 0, 136, 40⟩ [topFrame pos0]) = some (.next, St T_16 194 2375 w os, cd0, ⟨137, 0, 137, 8⟩) := by
  rw [PySem.W.Fast.te10110043849684766642, PySem.W.Fast.te14364793385576792824]; kernel_rfl
theorem pcT17 (w : World) (os : OsState) : segRunT treeTable pw w 11 (some (.ref 6)) 1 32 (St T_16 194 2375 w os) (piecesOf [top 17] env0 cd0 ⟨137, 0, 137, 8⟩ [topFrame pos0]) = some (.next, St T_17 201 2384 w os, cd0, ⟨138, 0, 144, 39⟩) := by
  rw [PySem.W.Fast.te10110043849684766642, PySem.W.Fast.te14364793385576792824]; kernel_rfl
end Mine

namespace Mine
open PySem PySem.W
theorem pcT18 (w : World) (os : OsState) : segRunT treeTable pw w 11 (some (.ref 6)) 1 27 (St T_17 201 2384 w os) (piecesOf [top 18] env0 cd0 ⟨138, 0, 144, 39⟩ [topFrame pos0]) = some (.next, St T_18 206 2390 w os, cd0, ⟨145, 0, 162, 16⟩) := by
  rw [PySem.W.Fast.te10110043849684766642, PySem.W.Fast.te14364793385576792824]; kernel_rfl
theorem pcT19 (w : World) (os : OsState) : segRunT treeTable pw w 11 (some (.ref 6)) 1 27 (St T_18 206 2390 w os) (piecesOf [top 19] env0 cd0 ⟨145, 0, 162, 16⟩ [topFrame pos0]) = some (.next, St T_19 211 2396 w os, cd0, ⟨163, 0, 168, 86⟩) := by
  rw [PySem.W.Fast.te10110043849684766642, PySem.W.Fast.te14364793385576792824]; kernel_rfl
theorem pcT20 (w : World) (os : OsState) : segRunT treeTable pw w 11 (some (.ref 6)) 1 31 (St T_19 211 2396 w os) (piecesOf [top 20] env0 cd0 ⟨163, 0, 168, 86⟩ [topFrame pos0]) = some (.next, St T_20 218 2404 w os, cd0, ⟨169, 0, 172, 79⟩) := by
  rw [PySem.W.Fast.te10110043849684766642, PySem.W.Fast.te14364793385576792824]; kernel_rfl
theorem pcT21 (w : World) (os : OsState) : segRunT treeTable pw w 11 (some (.ref 6)) 1 27 (St T_20 218 2404 w os) (piecesOf [top 21] env0 cd0 ⟨169, 0, 172, 79⟩ [topFrame pos0]) = some (.next, St T_21 223 2410 w os, cd0, ⟨173, 0, 179, 70⟩) := by
  rw [PySem.W.Fast.te10110043849684766642, PySem.W.Fast.te14364793385576792824]; kernel_rfl
theorem pcT22 (w : World) (os : OsState) : segRunT treeTable pw w 11 (some (.ref 6)) 1 34 (St T_21 223 2410 w os) (piecesOf [top 22] env0 cd0 ⟨173, 0, 179, 70⟩ [topFrame pos0]) = some (.next, St T_22 230 2421 w os, cd0, ⟨180, 0, 188, 54⟩) := by
  rw [PySem.W.Fast.te10110043849684766642, PySem.W.Fast.te14364793385576792824]; kernel_rfl
theorem pcT23 (w : World) (os : OsState) : segRunT treeTable pw w 11 (some (.ref 6)) 1 27 (St T_22 230 2421 w os) (piecesOf [top 23] env0 cd0 ⟨180, 0, 188, 54⟩ [topFrame pos0]) = some (.next, St T_23 235 2427 w os, cd0, ⟨189, 0, 204, 15⟩) := by
  rw [PySem.W.Fast.te10110043849684766642, PySem.W.Fast.te14364793385576792824]; kernel_rfl
theorem pcT24 (w : World) (os : OsState) : segRunT treeTable pw w 11 (some (.ref 6)) 1 27 (St T_23 235 2427 w os) (piecesOf [top 24] env0 cd0 ⟨189, 0, 204, 15⟩ [topFrame pos0]) = some (.next, St T_24 240 2433 w os, cd0, ⟨205, 0, 209, 92⟩) := by
  rw [PySem.W.Fast.te10110043849684766642, PySem.W.Fast.te14364793385576792824]; kernel_rfl
theorem pcT25 (w : World) (os : OsState) : segRunT treeTable pw w 11 (some (.ref 6)) 1 27 (St T_24 240 2433 w os) (piecesOf [top 25] env0 cd0 ⟨205, 0, 209, 92⟩ [topFrame pos0]) = some (.next, St T_25 245 2439 w os, cd0, ⟨210, 0, 212, 55⟩) := by
  rw [PySem.W.Fast.te10110043849684766642, PySem.W.Fast.te14364793385576792824]; kernel_rfl
theorem pcT26 (w : World) (os : OsState) : segRunT treeTable pw w 11 (some (.ref 6)) 1 27 (St T_25 245 2439 w os) (piecesOf [top 26] env0 cd0 ⟨210, 0, 212, 55⟩ [topFrame pos0]) = some (.next, St T_26 250 2445 w os, cd0, ⟨213, 0, 223, 15⟩) := by
  rw [PySem.W.Fast.te10110043849684766642, PySem.W.Fast.te14364793385576792824]; kernel_rfl
end Mine

namespace Mine
open PySem PySem.W

/-! ## the big table's display: its flushes -/
noncomputable abbrev DP := Sem Value × Sem Value
noncomputable abbrev DS := Option Addr × List DP
noncomputable def dloop : (body : (Option (Sem Value) × Sem Value) → DS → Sem (ForInStep DS)) ×' (fin : DS → Sem Value) ×' ∀ items, dictDisplay items = (forIn items ((none, []) : DS) body : Sem DS) >>= fin := ⟨_, _, fun items => rfl⟩
noncomputable def dfl : (flush : List DP → Option Addr → Sem (Option Addr)) ×' ∀ run m, dloop.2.1 (m, run) = flush run m >>= fun o => match o with | some d => pure (.ref d) | none => newDict := ⟨_, fun run m => rfl⟩
noncomputable def keyed (l : List DP) : List (Option (Sem Value) × Sem Value) := l.map fun p => (some p.1, p.2)
theorem bind_bind' {α β γ : Type} (x : Sem α) (f : α → Sem β) (g : β → Sem γ) : (x >>= f) >>= g = x >>= fun a => f a >>= g := bind_assoc x f g
theorem body_eq (k v : Sem Value) (m : Option Addr) (run : List DP) : dloop.1 (some k, v) (m, run) =
    if ((run ++ [(k, v)]).length == 17) = true then (dfl.1 (run ++ [(k, v)]) m >>= fun m' => pure (ForInStep.yield (m', []))) else pure (ForInStep.yield (m, run ++ [(k, v)])) := rfl
theorem chunk17 : ∀ (l run : List DP) (m : Option Addr) (rest : List (Option (Sem Value) × Sem Value)), l ≠ [] → run.length + l.length = 17 →
    (forIn (keyed l ++ rest) ((m, run) : DS) dloop.1 : Sem DS) = dfl.1 (run ++ l) m >>= fun m' => forIn rest ((m', []) : DS) dloop.1
  | [], _, _, _, h, _ => absurd rfl h
  | [(k, v)], run, m, rest, _, hl => by
    show (forIn ((some k, v) :: rest) ((m, run) : DS) dloop.1 : Sem DS) = _
    rw [List.forIn_cons, body_eq, if_pos (by simp at hl ⊢; omega), bind_bind']
    rfl
  | (k, v) :: p :: l, run, m, rest, _, hl => by
    show (forIn ((some k, v) :: (keyed (p :: l) ++ rest)) ((m, run) : DS) dloop.1 : Sem DS) = _
    rw [List.forIn_cons, body_eq, if_neg (by simp at hl ⊢; omega), pure_bind]
    have := chunk17 (p :: l) (run ++ [(k, v)]) m rest (by simp) (by simp at hl ⊢; omega)
    rw [List.append_assoc] at this
    exact this
theorem chunkEnd : ∀ (l run : List DP) (m : Option Addr), run.length + l.length < 17 → (forIn (keyed l) ((m, run) : DS) dloop.1 : Sem DS) = pure (m, run ++ l)
  | [], run, m, _ => by rw [List.append_nil]; rfl
  | (k, v) :: l, run, m, hl => by
    show (forIn ((some k, v) :: keyed l) ((m, run) : DS) dloop.1 : Sem DS) = _
    rw [List.forIn_cons, body_eq, if_neg (by simp at hl ⊢; omega), pure_bind]
    have := chunkEnd l (run ++ [(k, v)]) m (by simp at hl ⊢; omega)
    rw [List.append_assoc] at this
    exact this
end Mine
namespace Mine
open PySem PySem.W
noncomputable def itm : (f : List (Option Expr) → List Expr → Pos → Env → List (Option (Sem Value) × Sem Value)) ×' ∀ ks vs dp env, eval (.Dict ks vs dp) env = standAt dp >>= fun _ => dictDisplay (f ks vs dp env) := ⟨_, fun _ _ _ _ => rfl⟩
noncomputable def b3Ks : List (Option Expr) := match top 8 with | .Assign _ (.Dict ks _ _) _ => ks | _ => []
noncomputable def b3Vs : List Expr := match top 8 with | .Assign _ (.Dict _ vs _) _ => vs | _ => []
noncomputable def b3Dp : Pos := match top 8 with | .Assign _ (.Dict _ _ p) _ => p | _ => default
noncomputable def b3Tp : Pos := match top 8 with | .Assign [.Name _ p] _ _ => p | _ => default
noncomputable def b3P : Pos := match top 8 with | .Assign _ _ p => p | _ => default
noncomputable def b3N : Str := match top 8 with | .Assign [.Name x _] _ _ => x | _ => ""
theorem top8 : top 8 = .Assign [.Name b3N b3Tp] (.Dict b3Ks b3Vs b3Dp) b3P := by kernel_rfl
noncomputable def prs : List DP := (itm.1 b3Ks b3Vs b3Dp env0).filterMap fun x => match x with | (some k, v) => some (k, v) | _ => none
theorem prs_ok : keyed prs = itm.1 b3Ks b3Vs b3Dp env0 := by kernel_rfl
theorem prs_len : prs.length = 650 := by kernel_rfl
noncomputable def loop8 (n : Nat) (m : Option Addr) : Sem DS := forIn (keyed (prs.drop n)) ((m, []) : DS) dloop.1
theorem loop_step (n : Nat) (h : n + 17 ≤ 650) (m : Option Addr) : loop8 n m = dfl.1 ((prs.drop n).take 17) m >>= fun m' => loop8 (n + 17) m' := by
  have hl : ((prs.drop n).take 17).length = 17 := by rw [List.length_take, List.length_drop, prs_len]; omega
  have e : keyed (prs.drop n) = keyed ((prs.drop n).take 17) ++ keyed (prs.drop (n + 17)) := by
    unfold keyed
    rw [← List.map_append, ← List.drop_drop, List.take_append_drop]
  unfold loop8
  rw [e]
  exact chunk17 _ [] m _ (fun q => by rw [q] at hl; cases hl) (by simpa using hl)
theorem loop_end (m : Option Addr) : loop8 646 m = pure (m, prs.drop 646) := by
  unfold loop8
  exact chunkEnd _ [] m (by rw [List.length_drop, prs_len]; decide)
noncomputable def post8 : (f : Str → Pos → Env → Value → Sem Flow) ×' ∀ x px ks vs dp pos env, exec (.Assign [.Name x px] (.Dict ks vs dp) pos) env = standAt pos >>= fun _ => eval (.Dict ks vs dp) env >>= fun v => f x px env v := ⟨_, fun _ _ _ _ _ _ _ => rfl⟩
end Mine

namespace Mine
open PySem PySem.W

/-! ## quiet runs at the top -/
noncomputable abbrev TR (w : World) (N : Nat) (s : Shared) (t : Thread) : Option Shared := topRun treeTable pw w 11 (some (.ref 6)) N s t
noncomputable abbrev B0 : List Frame := [topFrame pos0]
structure Rn (w : World) (n : Nat) (gd : Bool → Bool) (lv : List Value → List Value) {α : Type} (x : Sem α) (s : Shared) (p : Pos) (a : α) (s' : Shared) (p' : Pos) : Prop where
  h : ∀ (K : α → Sem Fin) (H : Value → Sem Fin) (N : Nat) (r : Shared), TR w N s' ⟨K a, cd0, p', B0⟩ = some r → TR w (n + N) s ⟨x.wrap K H gd lv, cd0, p, B0⟩ = some r
section
variable {w : World} {gd : Bool → Bool} {lv : List Value → List Value} {α β : Type} {s s' s'' : Shared} {p p' p'' : Pos}
theorem Rn.pure {a : α} : Rn w 0 gd lv (Sem.pure a) s p a s p := ⟨fun K H N r h => by rw [Nat.zero_add]; exact h⟩
theorem Rn.bind {n m : Nat} {x : Sem α} {f : α → Sem β} {a : α} {b : β} (h : Rn w n gd lv x s p a s' p') (k : Rn w m gd lv (f a) s' p' b s'' p'') : Rn w (n + m) gd lv (x >>= f) s p b s'' p'' :=
  ⟨fun K H N r q => by
    rw [Sem.bind_eq_wrap', Sem.wrap_wrap, Nat.add_assoc]
    exact h.h _ _ _ _ (k.h K H N r q)⟩
theorem Rn.load {a : Addr} {q : Option Value} {k : Obj → Sem α} {o : Obj} {n : Nat} {b : α} (g : s.heap.get? a = some o) (h : Rn w n gd lv (k o) s p b s' p') : Rn w (1 + n) gd lv (Sem.load a q k) s p b s' p' :=
  ⟨fun K H N r z => by
    have := h.h K H N r z
    rw [show 1 + n + N = (n + N) + 1 by omega]
    obtain ⟨heap, gens, drawn, toks, os⟩ := s
    show topRun treeTable pw w 11 (some (.ref 6)) (n + N + 1) _ ⟨Sem.load a q fun x => (k x).wrap K H gd lv, cd0, p, B0⟩ = _
    unfold topRun
    rw [show through ⟨Sem.load a q fun x => (k x).wrap K H gd lv, cd0, p, B0⟩ = false from rfl, show stepOk 11 (some (.ref 6)) ⟨Sem.load a q fun x => (k x).wrap K H gd lv, cd0, p, B0⟩ = true from rfl]
    dsimp only at g ⊢
    simp only [step, g]
    exact this⟩
theorem Rn.update {a : Addr} {q : Option Value} {f : Obj → Obj} {k : Unit → Sem α} {n : Nat} {b : α} (ha : Nat.ble 11 a = true) (g : (s.heap.get? a).isSome = true)
    (h : Rn w n gd lv (k ()) ⟨s.heap.update a f, s.gens, s.drawn, s.toks, s.os⟩ p b s' p') : Rn w (1 + n) gd lv (Sem.update a q f k) s p b s' p' :=
  ⟨fun K H N r z => by
    have := h.h K H N r z
    rw [show 1 + n + N = (n + N) + 1 by omega]
    obtain ⟨heap, gens, drawn, toks, os⟩ := s
    show topRun treeTable pw w 11 (some (.ref 6)) (n + N + 1) _ ⟨Sem.update a q f fun x => (k x).wrap K H gd lv, cd0, p, B0⟩ = _
    unfold topRun
    have c : (⟨Sem.update a q f fun x => (k x).wrap K H gd lv, cd0, p, B0⟩ : Thread).calm = true := rfl
    have so : stepOk 11 (some (.ref 6)) ⟨Sem.update a q f fun x => (k x).wrap K H gd lv, cd0, p, B0⟩ = true := by
      unfold stepOk; rw [c, Bool.true_and]; dsimp only; rw [ha]; rfl
    rw [show through ⟨Sem.update a q f fun x => (k x).wrap K H gd lv, cd0, p, B0⟩ = false from rfl, so]
    dsimp only at g ⊢
    simp only [step, g, if_true]
    exact this⟩
theorem Rn.rule {t : String} {k : Unit → Sem α} {n : Nat} {b : α} (h : Rn w n gd lv (k ()) s p b s' p') : Rn w (1 + n) gd lv (Sem.rule t k) s p b s' p' :=
  ⟨fun K H N r z => by
    have := h.h K H N r z
    rw [show 1 + n + N = (n + N) + 1 by omega]
    obtain ⟨heap, gens, drawn, toks, os⟩ := s
    show topRun treeTable pw w 11 (some (.ref 6)) (n + N + 1) _ ⟨Sem.rule t fun x => (k x).wrap K H gd lv, cd0, p, B0⟩ = _
    unfold topRun
    rw [show through ⟨Sem.rule t fun x => (k x).wrap K H gd lv, cd0, p, B0⟩ = false from rfl, show stepOk 11 (some (.ref 6)) ⟨Sem.rule t fun x => (k x).wrap K H gd lv, cd0, p, B0⟩ = true from rfl]
    simp only [step]
    exact this⟩
theorem Rn.keep {n : Nat} {x : Sem α} {a : α} {vs : List Value} (h : Rn w n gd (fun l => lv (vs ++ l)) x s p a s' p') : Rn w n gd lv (x.keep vs) s p a s' p' :=
  ⟨fun K H N r z => by
    rw [Sem.keep_eq_wrap, Sem.wrap_wrap]
    exact h.h _ _ _ _ z⟩
theorem Rn.holding {n : Nat} {x : Sem α} {a : α} {vs : List Value} (h : ∀ lv, Rn w n gd lv x s p a s' p') : Rn w n gd lv (holding vs x) s p a s' p' := by
  unfold PySem.holding
  split
  · exact h lv
  · exact .keep (h _)
theorem Rn.onRaise {n : Nat} {x : Sem α} {a : α} {f : Value → Sem Unit} (h : Rn w n gd lv x s p a s' p') : Rn w n gd lv (x.onRaise f) s p a s' p' :=
  ⟨fun K H N r z => by
    rw [Sem.onRaise_eq_wrap, Sem.wrap_wrap]
    exact h.h _ _ _ _ z⟩
theorem Rn.of_seg {x : Sem α} {n : Nat} (res : α → Flow) {f : Flow} {a : α} (inj : ∀ a', res a' = f → a' = a) (h : segRun treeTable pw w 11 (some (.ref 6)) 1 n s ⟨x.wrap (fun a => doneF (res a)) deadEnd gd lv, cd0, p, B0⟩ = some (f, s', cd0, p')) : Rn w n gd lv x s p a s' p' :=
  ⟨fun K H N r z => by
    obtain ⟨a', ha, hN⟩ := seg_top (res := res) (K' := K) (H' := H) (B := B0) rfl n s ⟨x.wrap (fun a => doneF (res a)) deadEnd gd lv, cd0, p, B0⟩
      ⟨x.wrap K H gd lv, cd0, p, B0⟩ _ _ _ _ ⟨rfl, rfl, .inl ⟨rfl, rfl, _, rfl, rfl⟩⟩ h
    obtain rfl := inj a' ha
    exact hN N r z⟩
end
end Mine

namespace Mine
open PySem PySem.W

noncomputable def dE (es : List DictEntry) (ep : Nat) : Obj := ⟨.type "dict", none, .dict es.toArray ep, [].toArray⟩
section
variable {w : World} {gd : Bool → Bool} {lv : List Value → List Value} {α β : Type} {s s' s'' : Shared} {p p' p'' : Pos} {a d : Addr} {E F : List DictEntry} {ep k : Nat}
theorem rn_inst (g : s.heap.get? a = some (dE E ep)) : Rn w 1 gd lv (isInstance (.ref a) (.type "dict")) s p true s p := by
  have e : isInstance (.ref a) (.type "dict") = Sem.load a (some headPart) fun o => (Sem.pure o.cls >>= fun c => isSubtype c (.type "dict")) := by unfold isInstance; rfl
  rw [e]
  refine Rn.load (n := 0) g ?_
  have : (Sem.pure (dE E ep).cls >>= fun c => isSubtype c (.type "dict")) = Sem.pure true := by
    show (Sem.pure (.type "dict") >>= fun c => isSubtype c (.type "dict")) = _
    kernel_rfl
  rw [this]
  exact .pure
theorem rn_iter (g : s.heap.get? a = some (dE E ep)) : Rn w 1 gd lv (specialOf (.ref a) "__iter__") s p (some (.builtin "dict.__iter__")) s p := by
  have e : specialOf (.ref a) "__iter__" = Sem.load a (some headPart) fun o => (Sem.pure o.cls >>= fun c => typeLookup c "__iter__") := by unfold specialOf; rfl
  rw [e]
  refine Rn.load (n := 0) g ?_
  have : (Sem.pure (dE E ep).cls >>= fun c => typeLookup c "__iter__") = Sem.pure (some (.builtin "dict.__iter__")) := by
    show (Sem.pure (.type "dict") >>= fun c => typeLookup c "__iter__") = _
    kernel_rfl
  rw [this]
  exact .pure
theorem rn_entries (q : Option Value) (g : s.heap.get? a = some (dE E ep)) : Rn w 1 gd lv (dictEntries a q) s p E.toArray s p := by
  have e : dictEntries a q = Sem.load a q fun o => (match o.data with | .dict es _ => Sem.pure es | _ => unsupported "internal:not-a-dict") := rfl
  rw [e]
  exact Rn.load (n := 0) g .pure
theorem rn_epoch (q : Option Value) (g : s.heap.get? a = some (dE E ep)) : Rn w 1 gd lv (dictEpoch a q) s p ep s p := by
  have e : dictEpoch a q = Sem.load a q fun o => (match o.data with | .dict _ n => Sem.pure n | _ => unsupported "internal:not-a-dict") := rfl
  rw [e]
  exact Rn.load (n := 0) g .pure
theorem places_none (E : List DictEntry) (h : Int) (hn : ∀ e ∈ E, e.hash ≠ h) : placesWithHash E.toArray.size (fun i => E.toArray[i]?.map (·.hash)) h = [] := by
  unfold placesWithHash
  rw [List.filter_eq_nil_iff]
  intro i hi
  rw [List.mem_range] at hi
  simp only [List.size_toArray] at hi
  simp only [List.getElem?_toArray, List.getElem?_eq_getElem hi, Option.map_some, beq_iff_eq, Option.some.injEq]
  exact hn _ (List.getElem_mem _)
theorem rn_find {x : Int} {t : Tok} {h : Int} (g : s.heap.get? d = some (dE E ep)) (hn : ∀ e ∈ E, e.hash ≠ h) : Rn w 1 gd lv (dictFind d (.int x t) h) s p none s p := by
  unfold dictFind
  refine Rn.holding fun lv => ?_
  refine Rn.bind (n := 1) (m := 0) (rn_entries _ g) ?_
  dsimp only
  rw [places_none E h hn]
  exact .pure
theorem rn_keys (q : Option Value) {f : Array DictEntry → Array DictEntry} {E' : List DictEntry} (hd : Nat.ble 11 d = true) (g : s.heap.get? d = some (dE E ep)) (hf : f E.toArray = E'.toArray) (hl : E'.length ≤ 1000)
    (u : (s.heap.update d (Obj.mapDictKeys f)).get? d = some (dE E' (ep + 1))) :
    Rn w 3 gd lv (updateDictKeys d f q) s p () ⟨s.heap.update d (Obj.mapDictKeys f), s.gens, s.drawn, s.toks, s.os⟩ p := by
  have e : updateDictKeys d f q = Sem.load d q fun o => (match o.data with
    | .dict _ _ => Sem.update d q (Obj.mapDictKeys f) fun _ => Sem.load d q fun o => (match o.data.pastItsLine with | some what => unsupported what | none => Sem.pure ())
    | _ => unsupported "internal:write-to-non-dict") := by
      unfold updateDictKeys
      show Sem.load d q _ = _
      congr 1
      funext o
      obtain ⟨c, dd, dt, sl⟩ := o
      cases dt <;> first | rfl | skip
      show Sem.update d q _ _ = Sem.update d q _ _
      congr 1
      funext _
      unfold lookBehind
      show Sem.load d q _ = Sem.load d q _
      congr 1
      funext o
      simp only [Sem.bind]
      cases o.data.pastItsLine <;> rfl
  rw [e]
  refine Rn.load (n := 2) g ?_
  refine Rn.update (n := 1) hd (by rw [g]; rfl) ?_
  refine Rn.load (n := 0) u ?_
  have : (dE E' (ep + 1)).data.pastItsLine = none := by
    show (if E'.toArray.size > sizeLine + 1 then some "dict:memory" else none) = _
    rw [if_neg]
    rw [List.size_toArray]
    show ¬ (2 ^ 24 + 1 < E'.length)
    have : (2 : Nat) ^ 24 = 16777216 := by decide
    omega
  rw [this]
  exact .pure
end
end Mine

namespace Mine
open PySem PySem.W

theorem bt_set_set (f g : Obj → Obj) : ∀ (t : BT) (a : Nat), (t.set a f).set a g = t.set a (fun o => g (f o))
  | .nil, _ => rfl
  | .node v l r, a => by
    rw [BT.set_node, BT.set_node]
    by_cases ha : a = 0
    · rw [if_pos ha, if_pos ha, BT.set_node, if_pos ha]
    · rw [if_neg ha, if_neg ha]
      by_cases pa : a % 2 = 1
      · rw [if_pos pa, if_pos pa, BT.set_node, if_neg ha, if_pos pa, bt_set_set f g l]
      · rw [if_neg pa, if_neg pa, BT.set_node, if_neg ha, if_neg pa, bt_set_set f g r]
noncomputable def sA (T : BT) (n toks : Nat) (os : OsState) : Shared := ⟨absHeap T n life0, #[], {}, toks, os⟩
noncomputable def tE (T : BT) (d : Addr) (E : List DictEntry) (ep : Nat) : BT := T.set d fun _ => dE E ep
section
variable {w : World} {gd : Bool → Bool} {lv : List Value → List Value} {p : Pos} {a d : Addr} {E F : List DictEntry} {ep k n toks : Nat} {os : OsState} {T : BT} {o₀ : Obj}
theorem tE_get (hd : d < n) (g : T.get d = some o₀) : (sA (tE T d E ep) n toks os).heap.get? d = some (dE E ep) := by
  show (absHeap (tE T d E ep) n life0).get? d = _
  rw [abs_get (o := dE E ep) hd (by unfold tE; rw [BT.get_set, if_pos rfl, g]; rfl)]
  rfl
theorem tE_sub (ha : a < n) (ne : a ≠ d) (g : T.get a = some (dE F k)) : (sA (tE T d E ep) n toks os).heap.get? a = some (dE F k) := by
  show (absHeap (tE T d E ep) n life0).get? a = _
  rw [abs_get (o := dE F k) ha (by unfold tE; rw [BT.get_set, if_neg ne, g])]
  rfl
theorem tE_upd {f : Array DictEntry → Array DictEntry} {E' : List DictEntry} (g : T.get d = some o₀) (hf : f E.toArray = E'.toArray) :
    (sA (tE T d E ep) n toks os).heap.update d (Obj.mapDictKeys f) = (sA (tE T d E' (ep + 1)) n toks os).heap := by
  show (absHeap (tE T d E ep) n life0).update d (Obj.mapDictKeys f) = absHeap (tE T d E' (ep + 1)) n life0
  rw [← absHeap_set (o := dE E ep) (by unfold tE; rw [BT.get_set, if_pos rfl, g]; rfl)]
  unfold tE
  rw [bt_set_set]
  have : Obj.mapDictKeys f (dE E ep) = dE E' (ep + 1) := by
    show (⟨_, _, .dict (f E.toArray) (ep + 1), _⟩ : Obj) = _
    rw [hf]
    rfl
  rw [this]
theorem rn_put {e : DictEntry} {x : Int} {t : Tok} (h11 : Nat.ble 11 d = true) (hd : d < n) (g : T.get d = some o₀) (hk : e.key = .int x t) (hn : ∀ e' ∈ E, e'.hash ≠ e.hash) (hl : E.length < 1000) :
    Rn w 4 gd lv (dictPut d e.hash e.key e.val) (sA (tE T d E ep) n toks os) p () (sA (tE T d (E ++ [e]) (ep + 1)) n toks os) p := by
  unfold dictPut
  refine Rn.bind (n := 1) (m := 3) (a := Option.none) (s' := sA (tE T d E ep) n toks os) (p' := p) ?_ ?_
  · rw [hk]; exact rn_find (tE_get hd g) hn
  · dsimp only
    have u := tE_upd (n := n) (toks := toks) (os := os) (ep := ep) (f := fun es => es.push e) (E := E) (E' := E ++ [e]) g (by simp)
    have r := rn_keys Option.none (w := w) (gd := gd) (lv := lv) (p := p) (f := fun es => es.push e) (E' := E ++ [e]) h11 (tE_get (toks := toks) (os := os) (ep := ep) (E := E) hd g) (by simp) (by simp; omega) (by rw [u]; exact tE_get hd g)
    rw [u] at r
    exact r
/-- one turn of the merge -/
noncomputable def mTurn (d a : Addr) (epoch i : Nat) : Sem (ForInStep PUnit) := do
  let some e := (← dictEntries a)[i]? | do unsupported "dict.changed-during-merge"; pure (ForInStep.yield PUnit.unit)
  holding [e.key, e.val] (dictPut d e.hash e.key e.val)
  if (← dictEpoch a) != epoch then do unsupported "dict.changed-during-merge"; pure (ForInStep.yield PUnit.unit)
  else pure (ForInStep.yield PUnit.unit)
theorem rn_turn {e : DictEntry} {x : Int} {t : Tok} {i : Nat} (h11 : Nat.ble 11 d = true) (hd : d < n) (g : T.get d = some o₀) (ha : a < n) (ne : a ≠ d) (ga : T.get a = some (dE F k)) (he : F[i]? = some e)
    (hk : e.key = .int x t) (hn : ∀ e' ∈ E, e'.hash ≠ e.hash) (hl : E.length < 1000) :
    Rn w 6 gd lv (mTurn d a k i) (sA (tE T d E ep) n toks os) p (ForInStep.yield PUnit.unit) (sA (tE T d (E ++ [e]) (ep + 1)) n toks os) p := by
  unfold mTurn
  refine Rn.bind (n := 1) (m := 5) (rn_entries _ (tE_sub ha ne ga)) ?_
  rw [List.getElem?_toArray, he]
  dsimp only
  refine Rn.bind (n := 4) (m := 1) (Rn.holding fun _ => rn_put h11 hd g hk hn hl) ?_
  refine Rn.bind (n := 1) (m := 0) (rn_epoch _ (tE_sub ha ne ga)) ?_
  rw [if_neg (by simp)]
  exact .pure
noncomputable def FreshKeys : List DictEntry → List DictEntry → Prop
  | _, [] => True
  | E, e :: F => (∃ x t, e.key = .int x t) ∧ (∀ e' ∈ E, e'.hash ≠ e.hash) ∧ FreshKeys (E ++ [e]) F
theorem rn_loop (h11 : Nat.ble 11 d = true) (hd : d < n) (g : T.get d = some o₀) (ha : a < n) (ne : a ≠ d) (ga : T.get a = some (dE F k)) :
    ∀ (R : List DictEntry) (i : Nat) (E : List DictEntry) (ep : Nat), F.drop i = R → FreshKeys E R → E.length + R.length ≤ 1000 →
    Rn w (6 * R.length) gd lv (forIn (List.range' i R.length) PUnit.unit fun i (_ : PUnit) => mTurn d a k i) (sA (tE T d E ep) n toks os) p PUnit.unit (sA (tE T d (E ++ R) (ep + R.length)) n toks os) p
  | [], i, E, ep, _, _, _ => by
    rw [List.append_nil]
    exact .pure
  | e :: R, i, E, ep, hr, ⟨⟨x, t, hk⟩, hn, hf⟩, hl => by
    have he : F[i]? = some e := by
      have := congrArg List.head? hr
      rwa [List.head?_drop] at this
    have hr' : F.drop (i + 1) = R := by
      rw [← List.drop_drop, hr]; rfl
    rw [List.length_cons, List.range'_succ, List.forIn_cons, show 6 * (R.length + 1) = 6 + 6 * R.length by omega]
    have hl' : E.length + (R.length + 1) ≤ 1000 := hl
    refine Rn.bind (rn_turn h11 hd g ha ne ga he hk hn (by omega)) ?_
    dsimp only
    have := rn_loop h11 hd g ha ne ga R (i + 1) (E ++ [e]) (ep + 1) hr' hf (by rw [List.length_append]; simp; omega)
    rw [List.append_assoc, show ep + 1 + R.length = ep + (R.length + 1) by omega] at this
    exact this
theorem rn_merge (h11 : Nat.ble 11 d = true) (hd : d < n) (g : T.get d = some o₀) (ha : a < n) (ne : a ≠ d) (ga : T.get a = some (dE F k)) (hs : (a == sysModules) = false) (hE : E ≠ []) (hf : FreshKeys E F) (hl : E.length + F.length ≤ 1000) :
    Rn w (5 + 6 * F.length) gd lv (mergeMapping d (.ref a) false) (sA (tE T d E ep) n toks os) p () (sA (tE T d (E ++ F) (ep + F.length)) n toks os) p := by
  unfold mergeMapping
  rw [show 5 + 6 * F.length = 1 + (1 + (1 + (1 + (1 + (6 * F.length + 0))))) by omega]
  refine Rn.bind (rn_inst (tE_sub ha ne ga)) ?_
  rw [if_pos rfl]
  refine Rn.bind (rn_iter (tE_sub ha ne ga)) ?_
  rw [show 1 + (1 + (1 + (6 * F.length + 0))) = 0 + (1 + (1 + (1 + (6 * F.length + 0)))) by omega]
  refine Rn.bind (a := true) .pure ?_
  dsimp only
  rw [if_neg (by rw [hs]; decide)]
  refine Rn.bind (rn_entries _ (tE_get hd g)) ?_
  rw [if_neg (by cases E with | nil => exact absurd rfl hE | cons => simp)]
  refine Rn.bind (rn_entries _ (tE_sub ha ne ga)) ?_
  refine Rn.bind (rn_epoch _ (tE_sub ha ne ga)) ?_
  refine Rn.bind (a := PUnit.unit) ?_ .pure
  have := rn_loop (w := w) (gd := gd) (lv := lv) (p := p) (toks := toks) (os := os) h11 hd g ha ne ga F 0 E ep rfl hf hl
  rw [← List.range_eq_range'] at this
  exact this
end
end Mine

namespace Mine
open PySem PySem.W

/-! ## the flushes of the big display -/
noncomputable def chunk (j : Nat) : List DictEntry := (b3ents.drop (17 * j)).take 17
noncomputable def upTo (j : Nat) : List DictEntry := b3ents.take (17 * j)
noncomputable def GG : Nat → Params → BT
  | 0, P => (T_7 P).ins 113 (dE (chunk 0) (chunk 0).length)
  | j + 1, P => ((GG j P).ins (113 + (j + 1)) (dE (chunk (j + 1)) (chunk (j + 1)).length)).set 113 fun _ => dE (upTo (j + 2)) (upTo (j + 2)).length
noncomputable def GS (j : Nat) (P : Params) : BT := (GG j P).ins (113 + (j + 1)) (dE (chunk (j + 1)) (chunk (j + 1)).length)
noncomputable def cdP : Pos := ⟨74, 16, 74, 8704⟩
noncomputable def ccP (j : Nat) : List DP := (prs.drop (17 * j)).take 17
noncomputable def resA : Addr → Flow := fun a => .ret (.ref a)
noncomputable def SubOk (j n k : Nat) (w : World) : Prop := ∀ os : OsState, segRunT treeTable pw w 11 (some (.ref 6)) 1 (n + 1) (St (GG j) (113 + (j + 1)) (377 + 51 * (j + 1)) w os)
  ⟨(holding [.ref 113] (subDict (ccP (j + 1)))).wrap (fun a => doneF (resA a)) deadEnd id id, cd0, cdP, B0⟩ = some (resA (113 + (j + 1)), St (GS j) (113 + (j + 2)) (377 + 51 * (j + 1) + k) w os, cd0, cdP)
end Mine

namespace Mine
open PySem PySem.W

noncomputable def incB : Nat → List DictEntry → Bool
  | _, [] => true
  | b, ⟨.ofNat h, .int _ _, _⟩ :: l => Nat.blt b h && incB h l
  | _, _ => false
theorem incB_fresh : ∀ (F E : List DictEntry) (b : Nat), incB b F = true → (∀ e ∈ E, ∃ h : Nat, e.hash = (h : Int) ∧ h ≤ b) → FreshKeys E F
  | [], _, _, _, _ => trivial
  | ⟨.ofNat h, .int x t, v⟩ :: l, E, b, hi, hE => by
    simp only [incB, Bool.and_eq_true] at hi
    have lt : b < h := Nat.le_of_ble_eq_true hi.1
    refine ⟨⟨x, t, rfl⟩, fun e he => ?_, incB_fresh l _ h hi.2 fun e he => ?_⟩
    · obtain ⟨k, hk, le⟩ := hE e he
      rw [hk]
      show ((k : Int)) ≠ ((h : Nat) : Int)
      omega
    · rcases List.mem_append.mp he with he | he
      · obtain ⟨k, hk, le⟩ := hE e he
        exact ⟨k, hk, by omega⟩
      · rw [List.mem_singleton] at he
        subst he
        exact ⟨h, rfl, Nat.le_refl h⟩
  | ⟨.negSucc _, _, _⟩ :: l, E, b, hi, hE => by simp [incB] at hi
  | ⟨.ofNat h, .none, _⟩ :: l, E, b, hi, hE => by simp [incB] at hi
  | ⟨.ofNat h, .ellipsis, _⟩ :: l, E, b, hi, hE => by simp [incB] at hi
  | ⟨.ofNat h, .notImplemented, _⟩ :: l, E, b, hi, hE => by simp [incB] at hi
  | ⟨.ofNat h, .bool _, _⟩ :: l, E, b, hi, hE => by simp [incB] at hi
  | ⟨.ofNat h, .float _ _, _⟩ :: l, E, b, hi, hE => by simp [incB] at hi
  | ⟨.ofNat h, .str _ _, _⟩ :: l, E, b, hi, hE => by simp [incB] at hi
  | ⟨.ofNat h, .bytes _ _, _⟩ :: l, E, b, hi, hE => by simp [incB] at hi
  | ⟨.ofNat h, .type _, _⟩ :: l, E, b, hi, hE => by simp [incB] at hi
  | ⟨.ofNat h, .builtin _, _⟩ :: l, E, b, hi, hE => by simp [incB] at hi
  | ⟨.ofNat h, .ref _, _⟩ :: l, E, b, hi, hE => by simp [incB] at hi
theorem b3inc : incB 0 b3ents = true := by kernel_rfl
theorem b3len : b3ents.length = 650 := by kernel_rfl
theorem fk_drop : ∀ (F E : List DictEntry) (n : Nat), FreshKeys E F → FreshKeys (E ++ F.take n) (F.drop n)
  | F, E, 0, h => by rw [List.take_zero, List.append_nil]; exact h
  | [], E, n + 1, h => h
  | e :: F, E, n + 1, ⟨_, _, h⟩ => by
    have := fk_drop F (E ++ [e]) n h
    rw [List.append_assoc] at this
    exact this
theorem fk_take : ∀ (F E : List DictEntry) (n : Nat), FreshKeys E F → FreshKeys E (F.take n)
  | F, E, 0, h => trivial
  | [], E, n + 1, h => h
  | e :: F, E, n + 1, ⟨a, b, h⟩ => ⟨a, b, fk_take F _ n h⟩
theorem fk_chunk (j : Nat) : FreshKeys (upTo j) (chunk j) := by
  have := fk_take _ _ 17 (fk_drop b3ents [] (17 * j) (incB_fresh _ [] 0 b3inc (fun _ h => by cases h)))
  rwa [List.nil_append] at this
theorem upTo_succ (j : Nat) : upTo (j + 1) = upTo j ++ chunk j := by
  unfold upTo chunk
  rw [show 17 * (j + 1) = 17 * j + 17 by omega, List.take_add]
theorem bt_set_id (o : Obj) : ∀ (t : BT) (a : Nat), t.get a = some o → t.set a (fun _ => o) = t
  | .nil, _, _ => rfl
  | .node v l r, a, h => by
    rw [BT.get_node] at h
    rw [BT.set_node]
    by_cases ha : a = 0
    · rw [if_pos ha] at h ⊢; cases h; rfl
    · rw [if_neg ha] at h ⊢
      by_cases pa : a % 2 = 1
      · rw [if_pos pa] at h ⊢; rw [bt_set_id o l _ h]
      · rw [if_neg pa] at h ⊢; rw [bt_set_id o r _ h]
noncomputable def GetOk (j : Nat) : Prop := ∀ P, (GS j P).get 113 = some (dE (upTo (j + 1)) (upTo (j + 1)).length) ∧ (GS j P).get (113 + (j + 1)) = some (dE (chunk (j + 1)) (chunk (j + 1)).length)
theorem flush_rn {j n k : Nat} {w : World} (os : OsState) (h : Rn w n id id (holding [.ref 113] (subDict (ccP (j + 1)))) (St (GG j) (113 + (j + 1)) (377 + 51 * (j + 1)) w os).abs cdP (113 + (j + 1)) (St (GS j) (113 + (j + 2)) (377 + 51 * (j + 1) + k) w os).abs cdP) (hg : GetOk j) (hp : (ccP (j + 1)).isEmpty = false) : Rn w (n + (5 + 6 * (chunk (j + 1)).length)) id id (dfl.1 (ccP (j + 1)) (some 113)) (St (GG j) (113 + (j + 1)) (377 + 51 * (j + 1)) w os).abs cdP (some 113)
    (St (GG (j + 1)) (113 + (j + 2)) (377 + 51 * (j + 1) + k) w os).abs cdP := by
  have e : dfl.1 (ccP (j + 1)) (some 113) = if (ccP (j + 1)).isEmpty = true then (pure (some 113) : Sem (Option Addr)) else (holding [.ref 113] (subDict (ccP (j + 1))) >>= fun sub =>
      ((holding [.ref 113, .ref sub] (mergeMapping 113 (.ref sub) false)).onRaise fun x => do let _ ← holding [.ref 113, x] (runValue (.builtin "proto.let_go" {}))) >>= fun _ => (pure (some 113) : Sem (Option Addr))) := rfl
  rw [e, hp, if_neg (by decide)]
  refine Rn.bind (a := 113 + (j + 1)) h ?_
  obtain ⟨g1, g2⟩ := hg w.params
  have s1 : (St (GS j) (113 + (j + 2)) (377 + 51 * (j + 1) + k) w os).abs = sA (tE (GS j w.params) 113 (upTo (j + 1)) (upTo (j + 1)).length) (113 + (j + 2)) (377 + 51 * (j + 1) + k) os := by
    unfold tE
    rw [bt_set_id _ _ _ g1]
    rfl
  have s2 : (St (GG (j + 1)) (113 + (j + 2)) (377 + 51 * (j + 1) + k) w os).abs = sA (tE (GS j w.params) 113 (upTo (j + 1) ++ chunk (j + 1)) ((upTo (j + 1)).length + (chunk (j + 1)).length)) (113 + (j + 2)) (377 + 51 * (j + 1) + k) os := by
    rw [← List.length_append, ← upTo_succ]
    rfl
  rw [s1, s2]
  have le : (upTo (j + 1)).length + (chunk (j + 1)).length ≤ 1000 := by
    rw [← List.length_append, ← upTo_succ]
    unfold upTo
    rw [List.length_take, b3len]
    omega
  have c1 : (113 : Nat) < 113 + (j + 2) := by omega
  have c2 : (113 + (j + 1) : Nat) < 113 + (j + 2) := by omega
  have c3 : (113 + (j + 1) : Nat) ≠ 113 := by omega
  refine Rn.bind (n := 5 + 6 * (chunk (j + 1)).length) (m := 0) (a := ()) (Rn.onRaise (Rn.holding fun lv => rn_merge rfl c1 g1 c2 c3 g2 (beq_eq_false_iff_ne.mpr (by show 113 + (j + 1) ≠ 1; omega)) ?_ (fk_chunk _) le)) .pure
  unfold upTo
  intro q
  have := congrArg List.length q
  rw [List.length_take, b3len, List.length_nil] at this
  omega
theorem sub_of {j n k : Nat} {w : World} (os : OsState) (h : SubOk j n k w) : Rn w (n + 1) id id (holding [.ref 113] (subDict (ccP (j + 1)))) (St (GG j) (113 + (j + 1)) (377 + 51 * (j + 1)) w os).abs cdP (113 + (j + 1)) (St (GS j) (113 + (j + 2)) (377 + 51 * (j + 1) + k) w os).abs cdP :=
  Rn.of_seg resA (fun a' ha => by unfold resA at ha; cases ha; rfl) (segRun_of (h os))
theorem ccP_len (j : Nat) (h : 17 * (j + 1) ≤ 650) : (ccP j).length = 17 := by
  unfold ccP
  rw [List.length_take, List.length_drop, prs_len]; omega
theorem ne_len {α : Type} {l : List α} {n : Nat} (h : l.length = n + 1) : l.isEmpty = false := by
  cases l with
  | nil => cases h
  | cons => rfl
theorem chunk_len (j : Nat) (h : 17 * (j + 1) ≤ 650) : (chunk j).length = 17 := by
  unfold chunk
  rw [List.length_take, List.length_drop, b3len]; omega
end Mine

namespace Mine
open PySem PySem.W

noncomputable def hI (x : Int) : Int :=
  let h : Int := x.natAbs % (2 ^ 61 - 1 : Nat)
  let h := if x < 0 then -h else h
  if h == -1 then -2 else h
theorem hash_t (w : World) (x : Int) (t : Tok) (K : Int → Sem Fin) (H : Value → Sem Fin) (gd : Bool → Bool) (lv : List Value → List Value) (hp : Heap) (gens : Array GenState) (dr : Drawn) (tk : Nat) (os : OsState) (p : Pos) :
    topGo treeTable pw (w.withFollow "special-get-raises" true) 11 (some (.ref 6)) 5 ⟨hp, gens, dr, tk, os⟩ ⟨(pyHash (.int x t)).wrap K H gd lv, cd0, p, B0⟩ =
    some (⟨hp, gens, dr, tk + 1, os⟩, ⟨(pyHashByItsType.reduced (hI x)).wrap K H gd lv, cd0, p, B0⟩) := by
  kernel_rfl
theorem hash_f (w : World) (x : Int) (t : Tok) (K : Int → Sem Fin) (H : Value → Sem Fin) (gd : Bool → Bool) (lv : List Value → List Value) (hp : Heap) (gens : Array GenState) (dr : Drawn) (tk : Nat) (os : OsState) (p : Pos) :
    topGo treeTable pw (w.withFollow "special-get-raises" false) 11 (some (.ref 6)) 5 ⟨hp, gens, dr, tk, os⟩ ⟨(pyHash (.int x t)).wrap K H gd lv, cd0, p, B0⟩ =
    some (⟨hp, gens, dr, tk + 1, os⟩, ⟨(pyHashByItsType.reduced (hI x)).wrap K H gd lv, cd0, p, B0⟩) := by
  kernel_rfl
end Mine

namespace Mine
open PySem PySem.W

section
variable {w : World} {gd : Bool → Bool} {lv : List Value → List Value} {α β : Type} {s s' s'' : Shared} {p p' p'' : Pos}
theorem Rn.fresh {k : Tok → Sem α} {n : Nat} {b : α} (h : Rn w n gd lv (k s.toks) ⟨s.heap, s.gens, s.drawn, s.toks + 1, s.os⟩ p b s' p') : Rn w (1 + n) gd lv (Sem.fresh k) s p b s' p' :=
  ⟨fun K H N r z => by
    have := h.h K H N r z
    rw [show 1 + n + N = (n + N) + 1 by omega]
    obtain ⟨heap, gens, drawn, toks, os⟩ := s
    show topRun treeTable pw w 11 (some (.ref 6)) (n + N + 1) _ ⟨Sem.fresh fun x => (k x).wrap K H gd lv, cd0, p, B0⟩ = _
    unfold topRun
    rw [show through ⟨Sem.fresh fun x => (k x).wrap K H gd lv, cd0, p, B0⟩ = false from rfl, show stepOk 11 (some (.ref 6)) ⟨Sem.fresh fun x => (k x).wrap K H gd lv, cd0, p, B0⟩ = true from rfl]
    simp only [step]
    exact this⟩
theorem Rn.at {q : Pos} {k : Unit → Sem α} {n : Nat} {b : α} (h : Rn w n gd lv (k ()) s q b s' p') : Rn w (1 + n) gd lv (Sem.at q k) s p b s' p' :=
  ⟨fun K H N r z => by
    have := h.h K H N r z
    rw [show 1 + n + N = (n + N) + 1 by omega]
    obtain ⟨heap, gens, drawn, toks, os⟩ := s
    show topRun treeTable pw w 11 (some (.ref 6)) (n + N + 1) _ ⟨Sem.at q fun x => (k x).wrap K H gd lv, cd0, p, B0⟩ = _
    unfold topRun
    rw [show through ⟨Sem.at q fun x => (k x).wrap K H gd lv, cd0, p, B0⟩ = false from rfl, show stepOk 11 (some (.ref 6)) ⟨Sem.at q fun x => (k x).wrap K H gd lv, cd0, p, B0⟩ = true from rfl]
    simp only [step]
    exact this⟩
theorem Rn.alloc {o : Obj} {k : Addr → Sem α} {n : Nat} {b : α} (h : Rn w n gd lv (k s.heap.objs.size) ⟨s.heap.push o, s.gens, s.drawn, s.toks, s.os⟩ p b s' p') : Rn w (1 + n) gd lv (Sem.alloc o k) s p b s' p' :=
  ⟨fun K H N r z => by
    have := h.h K H N r z
    rw [show 1 + n + N = (n + N) + 1 by omega]
    obtain ⟨heap, gens, drawn, toks, os⟩ := s
    show topRun treeTable pw w 11 (some (.ref 6)) (n + N + 1) _ ⟨Sem.alloc o fun x => (k x).wrap K H gd lv, cd0, p, B0⟩ = _
    unfold topRun
    rw [show through ⟨Sem.alloc o fun x => (k x).wrap K H gd lv, cd0, p, B0⟩ = false from rfl, show stepOk 11 (some (.ref 6)) ⟨Sem.alloc o fun x => (k x).wrap K H gd lv, cd0, p, B0⟩ = true from rfl]
    simp only [step]
    exact this⟩
theorem hash_all : ∀ (w : World) (x : Int) (t : Tok) (K : Int → Sem Fin) (H : Value → Sem Fin) (gd : Bool → Bool) (lv : List Value → List Value) (hp : Heap) (gens : Array GenState) (dr : Drawn) (tk : Nat) (os : OsState) (p : Pos),
    topGo treeTable pw w 11 (some (.ref 6)) 5 ⟨hp, gens, dr, tk, os⟩ ⟨(pyHash (.int x t)).wrap K H gd lv, cd0, p, B0⟩ = some (⟨hp, gens, dr, tk + 1, os⟩, ⟨(pyHashByItsType.reduced (hI x)).wrap K H gd lv, cd0, p, B0⟩) :=
  byRow2 "special-get-raises" (P := fun w => ∀ (x : Int) (t : Tok) (K : Int → Sem Fin) (H : Value → Sem Fin) (gd : Bool → Bool) (lv : List Value → List Value) (hp : Heap) (gens : Array GenState) (dr : Drawn) (tk : Nat) (os : OsState) (p : Pos),
    topGo treeTable pw w 11 (some (.ref 6)) 5 ⟨hp, gens, dr, tk, os⟩ ⟨(pyHash (.int x t)).wrap K H gd lv, cd0, p, B0⟩ = some (⟨hp, gens, dr, tk + 1, os⟩, ⟨(pyHashByItsType.reduced (hI x)).wrap K H gd lv, cd0, p, B0⟩)) hash_f hash_t
theorem hI_small {m : Nat} (h : m < 1000000) : hI (Int.ofNat m) = Int.ofNat m := by
  have e : m % (2 ^ 61 - 1) = m := Nat.mod_eq_of_lt (Nat.lt_of_lt_of_le h (by decide))
  show (if ((if Int.ofNat m < 0 then -(((m % (2 ^ 61 - 1) : Nat)) : Int) else ((m % (2 ^ 61 - 1) : Nat) : Int)) == -1) = true then -2 else (if Int.ofNat m < 0 then -(((m % (2 ^ 61 - 1) : Nat)) : Int) else ((m % (2 ^ 61 - 1) : Nat) : Int))) = _
  rw [e, if_neg (show ¬ Int.ofNat m < 0 by simp)]
  rw [if_neg (by rw [beq_iff_eq]; show ¬ ((m : Nat) : Int) = -1; omega)]
  rfl
theorem reduced_small {m : Nat} (h : m < 1000000) : pyHashByItsType.reduced (Int.ofNat m) = Sem.pure (Int.ofNat m) := by
  unfold pyHashByItsType.reduced
  have c : (decide (-(2 ^ 63 : Int) ≤ Int.ofNat m) && decide (Int.ofNat m < 2 ^ 63)) = true := by
    rw [Bool.and_eq_true, decide_eq_true_eq, decide_eq_true_eq]
    have : ((2 : Int) ^ 63) = 9223372036854775808 := by decide
    rw [this]
    show (-9223372036854775808 : Int) ≤ ((m : Nat) : Int) ∧ ((m : Nat) : Int) < 9223372036854775808
    omega
  rw [if_pos c, if_neg (by rw [beq_iff_eq]; show ¬ ((m : Nat) : Int) = -1; omega)]
  rfl
theorem rn_hash {m : Nat} {t : Tok} (h : m < 1000000) : Rn w 5 gd lv (pyHash (.int (Int.ofNat m) t)) s p (Int.ofNat m) ⟨s.heap, s.gens, s.drawn, s.toks + 1, s.os⟩ p :=
  ⟨fun K H N r z => by
    refine go_top (hash_all w _ _ _ _ _ _ _ _ _ _ _ _) ?_
    rw [hI_small h, reduced_small h]
    exact z⟩
theorem rn_mkInt {i : Int} : Rn w 1 gd lv (mkInt i) s p (.int i s.toks) ⟨s.heap, s.gens, s.drawn, s.toks + 1, s.os⟩ p := Rn.fresh (n := 0) .pure
theorem rn_mkText {x : Str} : Rn w 1 gd lv (mkText x) s p (.str x s.toks) ⟨s.heap, s.gens, s.drawn, s.toks + 1, s.os⟩ p := Rn.fresh (n := 0) .pure
end
end Mine

namespace Mine
open PySem PySem.W

section
variable {w : World} {gd : Bool → Bool} {lv : List Value → List Value} {p : Pos} {d n tk ep : Nat} {E : List DictEntry} {os : OsState} {T : BT} {o₀ : Obj}
noncomputable def mkE (m : Nat) (τ : Nat) (x : Str) : DictEntry := ⟨Int.ofNat m, .int (Int.ofNat m) τ, .str x (τ + 1)⟩
theorem rn_dictSet {m : Nat} {t : Tok} {v : Value} (h11 : Nat.ble 11 d = true) (hd : d < n) (g : T.get d = some o₀) (hm : m < 1000000) (hn : ∀ e' ∈ E, e'.hash ≠ Int.ofNat m) (hl : E.length < 1000) :
    Rn w 10 gd lv (dictSet d (.int (Int.ofNat m) t) v) (sA (tE T d E ep) n tk os) p () (sA (tE T d (E ++ [⟨Int.ofNat m, .int (Int.ofNat m) t, v⟩]) (ep + 1)) n (tk + 1) os) p := by
  unfold dictSet
  refine Rn.holding fun lv => ?_
  refine Rn.bind (n := 5) (m := 5) (rn_hash hm) ?_
  show Rn w 5 gd lv _ (sA (tE T d E ep) n (tk + 1) os) p () _ p
  unfold dictSetHashed
  refine Rn.holding fun lv => ?_
  refine Rn.bind (n := 1) (m := 4) (rn_find (tE_get hd g) hn) ?_
  dsimp only
  refine Rn.bind (n := 1 + 0) (m := 3) (Rn.rule .pure) ?_
  have u := tE_upd (n := n) (toks := tk + 1) (os := os) (ep := ep) (f := fun es => es.push ⟨Int.ofNat m, .int (Int.ofNat m) t, v⟩) (E := E) (E' := E ++ [⟨Int.ofNat m, .int (Int.ofNat m) t, v⟩]) g (by simp)
  have r := rn_keys (keyPart (.int (Int.ofNat m) t)) (w := w) (gd := gd) (lv := lv) (p := p) (f := fun es => es.push ⟨Int.ofNat m, .int (Int.ofNat m) t, v⟩) (E' := E ++ [⟨Int.ofNat m, .int (Int.ofNat m) t, v⟩]) h11 (tE_get (toks := tk + 1) (os := os) (ep := ep) (E := E) hd g) (by simp) (by simp; omega) (by rw [u]; exact tE_get hd g)
  rw [u] at r
  exact r
/-- a pair of constants, as a display evaluates it -/
noncomputable def PrS (dp : Pos) (kv : Nat × Str) : DP := (mkInt (Int.ofNat kv.1), mkText kv.2 >>= fun x => standAt dp >>= fun _ => pure x)
noncomputable def mkEs : Nat → List (Nat × Str) → List DictEntry
  | _, [] => []
  | τ, kv :: r => mkE kv.1 τ kv.2 :: mkEs (τ + 3) r
theorem mkEs_len : ∀ (τ : Nat) (l : List (Nat × Str)), (mkEs τ l).length = l.length
  | _, [] => rfl
  | τ, kv :: r => by simp [mkEs, mkEs_len (τ + 3) r]
/-- keys that stand in order -/
noncomputable def okK : Nat → List (Nat × Str) → Bool
  | _, [] => true
  | b, kv :: r => Nat.blt b kv.1 && Nat.blt kv.1 1000000 && okK kv.1 r
noncomputable def fTurn (d : Addr) (kv : DP) : Sem (ForInStep PUnit) := do
  let k ← kv.1
  let v ← holding [k] kv.2
  holding [k, v] (dictSet d k v)
  pure (ForInStep.yield PUnit.unit)
theorem rn_pair {dp : Pos} {kv : Nat × Str} (h11 : Nat.ble 11 d = true) (hd : d < n) (g : T.get d = some o₀) (hm : kv.1 < 1000000) (hn : ∀ e' ∈ E, e'.hash ≠ Int.ofNat kv.1) (hl : E.length < 1000) :
    Rn w 13 gd lv (fTurn d (PrS dp kv)) (sA (tE T d E ep) n tk os) dp (ForInStep.yield PUnit.unit) (sA (tE T d (E ++ [mkE kv.1 tk kv.2]) (ep + 1)) n (tk + 3) os) dp := by
  unfold fTurn PrS
  refine Rn.bind (n := 1) (m := 12) rn_mkInt ?_
  refine Rn.bind (n := 2) (m := 10) (Rn.holding fun lv => Rn.bind (n := 1) (m := 1) rn_mkText (Rn.at (n := 0) .pure)) ?_
  refine Rn.bind (n := 10) (m := 0) (a := ()) (Rn.holding fun lv => ?_) .pure
  exact rn_dictSet (tk := tk + 2) h11 hd g hm hn hl
theorem rn_pairs {dp : Pos} (h11 : Nat.ble 11 d = true) (hd : d < n) (g : T.get d = some o₀) :
    ∀ (l : List (Nat × Str)) (E : List DictEntry) (ep tk b : Nat), okK b l = true → (∀ e ∈ E, ∃ h : Nat, e.hash = (h : Int) ∧ h ≤ b) → E.length + l.length ≤ 1000 →
    Rn w (13 * l.length) gd lv (forIn (l.map (PrS dp)) PUnit.unit fun kv (_ : PUnit) => fTurn d kv) (sA (tE T d E ep) n tk os) dp PUnit.unit (sA (tE T d (E ++ mkEs tk l) (ep + l.length)) n (tk + 3 * l.length) os) dp
  | [], E, ep, tk, b, _, _, _ => by
    rw [mkEs, List.append_nil]
    exact .pure
  | kv :: l, E, ep, tk, b, ok, hE, hl => by
    simp only [okK, Bool.and_eq_true] at ok
    have lt : b < kv.1 := Nat.le_of_ble_eq_true ok.1.1
    have lm : kv.1 < 1000000 := Nat.le_of_ble_eq_true ok.1.2
    have hl' : E.length + (l.length + 1) ≤ 1000 := hl
    rw [List.map_cons, List.forIn_cons, List.length_cons, show 13 * (l.length + 1) = 13 + 13 * l.length by omega]
    refine Rn.bind (rn_pair h11 hd g lm (fun e he => ?_) (by omega)) ?_
    · obtain ⟨h, e1, e2⟩ := hE e he
      rw [e1]
      show ((h : Nat) : Int) ≠ ((kv.1 : Nat) : Int)
      omega
    dsimp only
    have := rn_pairs (dp := dp) h11 hd g l (E ++ [mkE kv.1 tk kv.2]) (ep + 1) (tk + 3) kv.1 ok.2 (fun e he => by
      rcases List.mem_append.mp he with he | he
      · obtain ⟨h, e1, e2⟩ := hE e he
        exact ⟨h, e1, by omega⟩
      · rw [List.mem_singleton] at he
        subst he
        exact ⟨kv.1, rfl, Nat.le_refl _⟩) (by rw [List.length_append]; simp; omega)
    rw [List.append_assoc, show ep + 1 + l.length = ep + (l.length + 1) by omega, show tk + 3 + 3 * l.length = tk + 3 * (l.length + 1) by omega] at this
    exact this
theorem bt_ins_isSome (o o' : Obj) : ∀ (t : BT) (a : Nat), ((t.ins a o).get a).isSome = true → ((t.ins a o').get a).isSome = true
  | .nil, a, h => by
    show ((BT.node o' .nil .nil).get a).isSome = true
    have h : ((BT.node o .nil .nil).get a).isSome = true := h
    rw [BT.get_node] at h ⊢
    by_cases ha : a = 0
    · rw [if_pos ha]; rfl
    · rw [if_neg ha] at h ⊢
      by_cases pa : a % 2 = 1
      · rw [if_pos pa] at h ⊢; exact h
      · rw [if_neg pa] at h ⊢; exact h
  | .node v l r, a, h => by
    rw [BT.ins_node] at h ⊢
    by_cases ha : a = 0
    · rw [if_pos ha, BT.get_node, if_pos ha]; rfl
    · rw [if_neg ha] at h ⊢
      by_cases pa : a % 2 = 1
      · rw [if_pos pa, BT.get_node, if_neg ha, if_pos pa] at h ⊢
        exact bt_ins_isSome o o' l _ h
      · rw [if_neg pa, BT.get_node, if_neg ha, if_neg pa] at h ⊢
        exact bt_ins_isSome o o' r _ h
theorem bt_ins_set (o o' : Obj) : ∀ (t : BT) (a : Nat), ((t.ins a o).get a).isSome = true → (t.ins a o).set a (fun _ => o') = t.ins a o'
  | .nil, a, h => by
    show (BT.node o .nil .nil).set a (fun _ => o') = BT.node o' .nil .nil
    have h : ((BT.node o .nil .nil).get a).isSome = true := h
    rw [BT.get_node] at h
    rw [BT.set_node]
    by_cases ha : a = 0
    · rw [if_pos ha]
    · rw [if_neg ha] at h
      by_cases pa : a % 2 = 1
      · rw [if_pos pa] at h; cases h
      · rw [if_neg pa] at h; cases h
  | .node v l r, a, h => by
    rw [BT.ins_node] at h ⊢
    rw [BT.ins_node]
    by_cases ha : a = 0
    · rw [if_pos ha, if_pos ha, BT.set_node, if_pos ha]
    · rw [if_neg ha] at h ⊢
      rw [if_neg ha]
      by_cases pa : a % 2 = 1
      · rw [if_pos pa, BT.get_node, if_neg ha, if_pos pa] at h
        rw [if_pos pa, if_pos pa, BT.set_node, if_neg ha, if_pos pa, bt_ins_set o o' l _ h]
      · rw [if_neg pa, BT.get_node, if_neg ha, if_neg pa] at h
        rw [if_neg pa, if_neg pa, BT.set_node, if_neg ha, if_neg pa, bt_ins_set o o' r _ h]
/-- a display's chunk becomes a dict of its own -/
theorem rn_sub {dp : Pos} {l : List (Nat × Str)} {o₁ : Obj} (h11 : Nat.ble 11 n = true) (hl : 15 < l.length) (hl' : l.length ≤ 1000) (ok : okK 0 l = true) (hg : ((T.ins n o₁).get n).isSome = true) :
    Rn w (2 + 13 * l.length) gd lv (subDict (l.map (PrS dp))) (sA T n tk os) dp n (sA (T.ins n (dE (mkEs tk l) l.length)) (n + 1) (tk + 3 * l.length) os) dp := by
  have i0 := bt_ins_isSome o₁ (dE [] 0) T n hg
  have i1 := bt_ins_isSome o₁ (dE (mkEs tk l) l.length) T n hg
  obtain ⟨oo, go⟩ := Option.isSome_iff_exists.mp i0
  unfold subDict
  rw [show 2 + 13 * l.length = (1 + 0) + (1 + 13 * l.length) by omega]
  refine Rn.bind (n := 1 + 0) (m := 1 + 13 * l.length) (a := n) (s' := sA (T.ins n (dE [] 0)) (n + 1) tk os) (p' := dp) ?_ ?_
  · have hz : (sA T n tk os).heap.objs.size = n := absHeap_size T n life0
    have hp : (absHeap T n life0).push (dE [] 0) = absHeap (T.ins n (dE [] 0)) (n + 1) life0 := (absHeap_ins i0).symm
    have := Rn.alloc (w := w) (gd := gd) (lv := lv) (o := dE [] 0) (k := fun a => (Sem.pure a : Sem Addr)) (n := 0) (s := sA T n tk os) (p := dp) (b := n) (s' := sA (T.ins n (dE [] 0)) (n + 1) tk os) (p' := dp) (by
      rw [hz]
      show Rn w 0 gd lv (Sem.pure n) ⟨(absHeap T n life0).push (dE [] 0), #[], {}, tk, os⟩ dp n _ dp
      rw [hp]
      exact .pure)
    exact this
  · rw [show 1 + 13 * l.length = (1 + 13 * l.length) + 0 by omega]
    refine Rn.bind (a := ()) (Rn.holding fun lv => ?_) .pure
    rw [if_neg (by rw [List.length_map]; omega)]
    refine Rn.bind (n := 1 + 0) (m := 13 * l.length) (Rn.rule .pure) ?_
    rw [show 13 * l.length = 13 * l.length + 0 by omega]
    refine Rn.bind (a := PUnit.unit) ?_ .pure
    have t0 : T.ins n (dE [] 0) = tE (T.ins n (dE [] 0)) n [] 0 := by
      unfold tE
      rw [bt_ins_set _ _ _ _ i0]
    have t1 : T.ins n (dE (mkEs tk l) l.length) = tE (T.ins n (dE [] 0)) n ([] ++ mkEs tk l) (0 + l.length) := by
      unfold tE
      rw [bt_ins_set _ _ _ _ i0, List.nil_append, Nat.zero_add]
    rw [t1, t0]
    have := rn_pairs (w := w) (gd := gd) (lv := lv) (os := os) (dp := dp) h11 (Nat.lt_succ_self n) go l [] 0 tk 0 ok (fun _ h => by cases h) (by simpa using hl')
    rw [← t0] at this ⊢
    exact this
end
end Mine

namespace Mine
open PySem PySem.W

noncomputable def kvGo : List (Option Expr) → List Expr → List (Nat × Str)
  | some (.Constant (.int (.ofNat k)) _ _) :: ks, .Constant (.str v) _ _ :: vs => (k, v) :: kvGo ks vs
  | _, _ => []
noncomputable def kvL : List (Nat × Str) := kvGo b3Ks b3Vs
noncomputable def kvC (j : Nat) : List (Nat × Str) := (kvL.drop (17 * j)).take 17
noncomputable def zipE : Nat → List (Nat × Str) → List DictEntry
  | _, [] => []
  | n, kv :: r => ⟨Int.ofNat kv.1, .int (Int.ofNat kv.1) (b3tok n), .str kv.2 (b3tok n + 1)⟩ :: zipE (n + 1) r
theorem kv_ents : b3ents = zipE 0 kvL := by kernel_rfl
theorem kv_prs : prs = kvL.map (PrS b3Dp) := by kernel_rfl
theorem kv_ok : okK 0 kvL = true := by kernel_rfl
theorem kv_len : kvL.length = 650 := by kernel_rfl
theorem b3Dp_eq : b3Dp = cdP := by kernel_rfl
theorem zip_drop : ∀ (m n : Nat) (l : List (Nat × Str)), (zipE n l).drop m = zipE (n + m) (l.drop m)
  | 0, n, l => rfl
  | m + 1, n, [] => rfl
  | m + 1, n, kv :: l => by
    show (zipE (n + 1) l).drop m = zipE (n + (m + 1)) (l.drop m)
    rw [zip_drop m (n + 1) l, show n + 1 + m = n + (m + 1) by omega]
theorem zip_take : ∀ (m n : Nat) (l : List (Nat × Str)), (zipE n l).take m = zipE n (l.take m)
  | 0, n, l => by cases l <;> rfl
  | m + 1, n, [] => rfl
  | m + 1, n, kv :: l => by
    show _ :: (zipE (n + 1) l).take m = _ :: zipE (n + 1) (l.take m)
    rw [zip_take m (n + 1) l]
theorem zip_mk : ∀ (l : List (Nat × Str)) (n : Nat), n + l.length ≤ 646 → zipE n l = mkEs (377 + 3 * n) l
  | [], n, _ => rfl
  | kv :: l, n, h => by
    have h : n + (l.length + 1) ≤ 646 := h
    have e : b3tok n = 377 + 3 * n := by unfold b3tok; rw [if_pos (by omega)]
    show (⟨_, .int _ (b3tok n), .str _ (b3tok n + 1)⟩ : DictEntry) :: zipE (n + 1) l = mkE kv.1 (377 + 3 * n) kv.2 :: mkEs (377 + 3 * n + 3) l
    rw [e, zip_mk l (n + 1) (by omega), show 377 + 3 * (n + 1) = 377 + 3 * n + 3 by omega]
    rfl
theorem kvC_len (j : Nat) (h : 17 * (j + 1) ≤ 650) : (kvC j).length = 17 := by
  unfold kvC
  rw [List.length_take, List.length_drop, kv_len]; omega
theorem chunk_mk (j : Nat) (h : j < 38) : chunk j = mkEs (377 + 51 * j) (kvC j) := by
  unfold chunk
  rw [kv_ents, zip_drop, zip_take, Nat.zero_add, zip_mk _ _ (by have := kvC_len j (by omega); unfold kvC at this; omega), show 377 + 3 * (17 * j) = 377 + 51 * j by omega]
  rfl
theorem ccP_mk (j : Nat) : ccP j = (kvC j).map (PrS cdP) := by
  unfold ccP kvC
  rw [kv_prs, b3Dp_eq, List.map_take, List.map_drop]
theorem okK_less : ∀ {l : List (Nat × Str)} {b b' : Nat}, b' ≤ b → okK b l = true → okK b' l = true
  | [], _, _, _, _ => rfl
  | kv :: l, b, b', h, ok => by
    simp only [okK, Bool.and_eq_true] at ok ⊢
    exact ⟨⟨Nat.ble_eq_true_of_le (Nat.lt_of_le_of_lt h (Nat.le_of_ble_eq_true ok.1.1)), ok.1.2⟩, ok.2⟩
theorem okK_drop : ∀ (m : Nat) (l : List (Nat × Str)) (b : Nat), okK b l = true → okK 0 (l.drop m) = true
  | 0, l, b, ok => okK_less (Nat.zero_le _) ok
  | m + 1, [], b, _ => rfl
  | m + 1, kv :: l, b, ok => by
    simp only [okK, Bool.and_eq_true] at ok
    exact okK_drop m l _ ok.2
theorem okK_take : ∀ (m : Nat) (l : List (Nat × Str)) (b : Nat), okK b l = true → okK b (l.take m) = true
  | 0, l, b, ok => rfl
  | m + 1, [], b, _ => rfl
  | m + 1, kv :: l, b, ok => by
    simp only [okK, Bool.and_eq_true] at ok
    show okK b (kv :: l.take m) = true
    simp only [okK, Bool.and_eq_true]
    exact ⟨ok.1, okK_take m l _ ok.2⟩
theorem okK_kvC (j : Nat) : okK 0 (kvC j) = true := okK_take _ _ _ (okK_drop _ _ _ kv_ok)
theorem sub_rn {j : Nat} {w : World} (os : OsState) (hj : j < 37) (hg : GetOk j) : Rn w 223 id id (holding [.ref 113] (subDict (ccP (j + 1)))) (St (GG j) (113 + (j + 1)) (377 + 51 * (j + 1)) w os).abs cdP (113 + (j + 1))
    (St (GS j) (113 + (j + 2)) (377 + 51 * (j + 1) + 51) w os).abs cdP := by
  refine Rn.holding fun lv => ?_
  have len := kvC_len (j + 1) (by omega)
  have h11 : Nat.ble 11 (113 + (j + 1)) = true := Nat.ble_eq_true_of_le (by omega)
  have r := rn_sub (w := w) (gd := id) (lv := lv) (os := os) (tk := 377 + 51 * (j + 1)) (T := GG j w.params) (n := 113 + (j + 1)) (dp := cdP) (l := kvC (j + 1)) (o₁ := dE (chunk (j + 1)) (chunk (j + 1)).length) h11 (by omega) (by omega) (okK_kvC _)
    (by have := (hg w.params).2; unfold GS at this; rw [this]; rfl)
  rw [← ccP_mk, ← chunk_mk _ (by omega), len] at r
  have s2 : (St (GS j) (113 + (j + 2)) (377 + 51 * (j + 1) + 51) w os).abs = sA ((GG j w.params).ins (113 + (j + 1)) (dE (chunk (j + 1)) 17)) (113 + (j + 1) + 1) (377 + 51 * (j + 1) + 3 * 17) os := by
    unfold St SharedT.abs GS sA
    dsimp only
    rw [chunk_len (j + 1) (by omega)]
    rfl
  rw [s2]
  exact r
theorem first_some : ∀ P, (((T_7 P).ins 113 (dE (chunk 0) (chunk 0).length)).get 113).isSome = true := fun P => by kernel_rfl
theorem first_rn {w : World} (os : OsState) : Rn w 223 id id (dfl.1 (ccP 0) none) (St T_7 113 377 w os).abs cdP (some 113) (St (GG 0) 114 428 w os).abs cdP := by
  have e : dfl.1 (ccP 0) none = if (ccP 0).isEmpty = true then (pure none : Sem (Option Addr)) else (subDict (ccP 0) >>= fun a => (pure (some a) : Sem (Option Addr))) := rfl
  rw [e, ne_len (ccP_len 0 (by decide)), if_neg (by decide)]
  have len := kvC_len 0 (by decide)
  have r := rn_sub (w := w) (gd := id) (lv := id) (os := os) (tk := 377) (T := T_7 w.params) (n := 113) (dp := cdP) (l := kvC 0) (o₁ := dE (chunk 0) (chunk 0).length) rfl (by omega) (by omega) (okK_kvC _) (first_some _)
  rw [← ccP_mk, len] at r
  have c0 := chunk_mk 0 (by decide)
  rw [Nat.mul_zero, Nat.add_zero] at c0
  rw [← c0] at r
  have s2 : (St (GG 0) 114 428 w os).abs = sA ((T_7 w.params).ins 113 (dE (chunk 0) 17)) (113 + 1) (377 + 3 * 17) os := by
    unfold St SharedT.abs sA
    rw [GG]
    dsimp only
    rw [chunk_len 0 (by decide)]
  have s1 : (St T_7 113 377 w os).abs = sA (T_7 w.params) 113 377 os := by
    unfold St SharedT.abs sA
    dsimp only
  rw [s2, s1]
  have e2 : (2 + 13 * 17 : Nat) = 223 := by decide
  rw [e2] at r
  generalize sA (T_7 w.params) 113 377 os = u at r ⊢
  generalize sA ((T_7 w.params).ins 113 (dE (chunk 0) 17)) (113 + 1) (377 + 3 * 17) os = v at r ⊢
  exact Rn.bind (n := 223) (m := 0) (a := (113 : Addr)) r .pure
theorem tail_rn {w : World} (os : OsState) (hg : ∀ j, j < 38 → GetOk j) : ∀ (i j : Nat), i + j = 37 →
    Rn w (330 * i) id id (loop8 (17 * (j + 1)) (some 113)) (St (GG j) (113 + (j + 1)) (377 + 51 * (j + 1)) w os).abs cdP (some 113, prs.drop 646) (St (GG 37) 151 2315 w os).abs cdP
  | 0, j, h => by
    obtain rfl : j = 37 := by omega
    rw [show 17 * (37 + 1) = 646 from rfl, loop_end]
    exact .pure
  | i + 1, j, h => by
    rw [show 330 * (i + 1) = (223 + (5 + 6 * 17)) + 330 * i by omega, loop_step _ (by omega), show 17 * (j + 1) + 17 = 17 * (j + 1 + 1) by omega]
    have f := flush_rn (w := w) os (sub_rn (w := w) os (by omega) (hg j (by omega))) (hg j (by omega)) (ne_len (ccP_len (j + 1) (by omega)))
    rw [chunk_len (j + 1) (by omega)] at f
    refine Rn.bind f ?_
    have t := tail_rn (w := w) os hg i (j + 1) (by omega)
    rw [show 377 + 51 * (j + 1) + 51 = 377 + 51 * (j + 1 + 1) by omega]
    exact t
end Mine

namespace Mine
open PySem PySem.W

theorem sg0 (w : World) (os : OsState) : segRunT treeTable pw w 11 (some (.ref 6)) 1 2 (St T_7 113 377 w os) ⟨(standAt b3P : Sem Unit).wrap (fun _ => doneF .next) deadEnd id id, cd0, ⟨72, 0, 73, 30⟩, B0⟩ = some (.next, St T_7 113 377 w os, cd0, b3P) := by
  rw [PySem.W.Fast.te10110043849684766642, PySem.W.Fast.te14364793385576792824]; kernel_rfl
theorem sg1 (w : World) (os : OsState) : segRunT treeTable pw w 11 (some (.ref 6)) 1 2 (St T_7 113 377 w os) ⟨(standAt b3Dp : Sem Unit).wrap (fun _ => doneF .next) deadEnd id id, cd0, b3P, B0⟩ = some (.next, St T_7 113 377 w os, cd0, cdP) := by
  rw [PySem.W.Fast.te10110043849684766642, PySem.W.Fast.te14364793385576792824]; kernel_rfl
theorem sg40 (w : World) (os : OsState) : segRunT treeTable pw w 11 (some (.ref 6)) 1 8 (St (GG 38) 152 2327 w os) ⟨(post8.1 b3N b3Tp env0 (.ref 113)).wrap doneF deadEnd id id, cd0, cdP, B0⟩ = some (.next, St T_8 152 2328 w os, cd0, ⟨74, 0, 74, 13⟩) := by
  rw [PySem.W.Fast.te10110043849684766642, PySem.W.Fast.te14364793385576792824]; kernel_rfl
theorem ccP38 : prs.drop 646 = ccP 38 := by
  unfold ccP
  rw [List.take_of_length_le]
  rw [List.length_drop, prs_len]
  decide
theorem chunk38 : (chunk 38).length = 4 := by
  unfold chunk
  rw [List.length_take, List.length_drop, b3len]
  rfl
theorem st8 {w : World} (os : OsState) (hs' : SubOk 37 53 12 w) (hg : ∀ j, j < 38 → GetOk j) :
    Rn w 12528 id id (exec (top 8) env0) (St T_7 113 377 w os).abs ⟨72, 0, 73, 30⟩ .next (St T_8 152 2328 w os).abs ⟨74, 0, 74, 13⟩ := by
  rw [top8, post8.2, itm.2, ← prs_ok, dloop.2.2]
  rw [show (12528 : Nat) = 2 + ((2 + ((223 + 330 * 37) + (53 + 1 + (5 + 6 * 4) + 0))) + 8) by decide]
  refine Rn.bind (a := ()) (Rn.of_seg (fun _ => .next) (fun _ _ => rfl) (segRun_of (sg0 w os))) ?_
  refine Rn.bind (n := 2 + ((223 + 330 * 37) + (53 + 1 + (5 + 6 * 4) + 0))) (a := Value.ref 113) (s' := (St (GG 38) 152 2327 w os).abs) (p' := cdP) ?_ ?_
  · refine Rn.bind (a := ()) (Rn.of_seg (fun _ => .next) (fun _ _ => rfl) (segRun_of (sg1 w os))) ?_
    refine Rn.bind (n := 223 + 330 * 37) (a := (some 113, prs.drop 646)) (s' := (St (GG 37) 151 2315 w os).abs) (p' := cdP) ?_ ?_
    · show Rn w (223 + 330 * 37) id id (loop8 0 none) _ _ _ _ _
      rw [loop_step 0 (by decide)]
      exact Rn.bind (a := some 113) (first_rn os) (tail_rn os hg 37 0 rfl)
    · rw [dfl.2, ccP38]
      have f := flush_rn os (sub_of os hs') (hg 37 (by decide)) (by rw [← ccP38]; exact ne_len (n := 3) (by rw [List.length_drop, prs_len]))
      rw [chunk38] at f
      exact Rn.bind f .pure
  · exact Rn.of_seg (fun f => f) (fun _ h => h) (segRun_of (sg40 w os))
end Mine

namespace Mine
open PySem PySem.W
theorem sb37_f (w : World) : SubOk 37 53 12 (w.withFollow "special-get-raises" false) := by
  unfold SubOk; intro os; rw [PySem.W.Fast.te10110043849684766642, PySem.W.Fast.te14364793385576792824]; kernel_rfl
theorem sb37_t (w : World) : SubOk 37 53 12 (w.withFollow "special-get-raises" true) := by
  unfold SubOk; intro os; rw [PySem.W.Fast.te10110043849684766642, PySem.W.Fast.te14364793385576792824]; kernel_rfl
theorem sb37 : ∀ w, SubOk 37 53 12 w := byRow2 "special-get-raises" (P := SubOk 37 53 12) sb37_f sb37_t
theorem gt0 : GetOk 0 := fun P => ⟨by kernel_rfl, by kernel_rfl⟩
theorem gt1 : GetOk 1 := fun P => ⟨by kernel_rfl, by kernel_rfl⟩
theorem gt2 : GetOk 2 := fun P => ⟨by kernel_rfl, by kernel_rfl⟩
theorem gt3 : GetOk 3 := fun P => ⟨by kernel_rfl, by kernel_rfl⟩
theorem gt4 : GetOk 4 := fun P => ⟨by kernel_rfl, by kernel_rfl⟩
theorem gt5 : GetOk 5 := fun P => ⟨by kernel_rfl, by kernel_rfl⟩
theorem gt6 : GetOk 6 := fun P => ⟨by kernel_rfl, by kernel_rfl⟩
theorem gt7 : GetOk 7 := fun P => ⟨by kernel_rfl, by kernel_rfl⟩
theorem gt8 : GetOk 8 := fun P => ⟨by kernel_rfl, by kernel_rfl⟩
theorem gt9 : GetOk 9 := fun P => ⟨by kernel_rfl, by kernel_rfl⟩
theorem gt10 : GetOk 10 := fun P => ⟨by kernel_rfl, by kernel_rfl⟩
theorem gt11 : GetOk 11 := fun P => ⟨by kernel_rfl, by kernel_rfl⟩
theorem gt12 : GetOk 12 := fun P => ⟨by kernel_rfl, by kernel_rfl⟩
theorem gt13 : GetOk 13 := fun P => ⟨by kernel_rfl, by kernel_rfl⟩
theorem gt14 : GetOk 14 := fun P => ⟨by kernel_rfl, by kernel_rfl⟩
theorem gt15 : GetOk 15 := fun P => ⟨by kernel_rfl, by kernel_rfl⟩
theorem gt16 : GetOk 16 := fun P => ⟨by kernel_rfl, by kernel_rfl⟩
theorem gt17 : GetOk 17 := fun P => ⟨by kernel_rfl, by kernel_rfl⟩
theorem gt18 : GetOk 18 := fun P => ⟨by kernel_rfl, by kernel_rfl⟩
theorem gt19 : GetOk 19 := fun P => ⟨by kernel_rfl, by kernel_rfl⟩
theorem gt20 : GetOk 20 := fun P => ⟨by kernel_rfl, by kernel_rfl⟩
theorem gt21 : GetOk 21 := fun P => ⟨by kernel_rfl, by kernel_rfl⟩
theorem gt22 : GetOk 22 := fun P => ⟨by kernel_rfl, by kernel_rfl⟩
theorem gt23 : GetOk 23 := fun P => ⟨by kernel_rfl, by kernel_rfl⟩
theorem gt24 : GetOk 24 := fun P => ⟨by kernel_rfl, by kernel_rfl⟩
theorem gt25 : GetOk 25 := fun P => ⟨by kernel_rfl, by kernel_rfl⟩
theorem gt26 : GetOk 26 := fun P => ⟨by kernel_rfl, by kernel_rfl⟩
theorem gt27 : GetOk 27 := fun P => ⟨by kernel_rfl, by kernel_rfl⟩
theorem gt28 : GetOk 28 := fun P => ⟨by kernel_rfl, by kernel_rfl⟩
theorem gt29 : GetOk 29 := fun P => ⟨by kernel_rfl, by kernel_rfl⟩
theorem gt30 : GetOk 30 := fun P => ⟨by kernel_rfl, by kernel_rfl⟩
theorem gt31 : GetOk 31 := fun P => ⟨by kernel_rfl, by kernel_rfl⟩
theorem gt32 : GetOk 32 := fun P => ⟨by kernel_rfl, by kernel_rfl⟩
theorem gt33 : GetOk 33 := fun P => ⟨by kernel_rfl, by kernel_rfl⟩
theorem gt34 : GetOk 34 := fun P => ⟨by kernel_rfl, by kernel_rfl⟩
theorem gt35 : GetOk 35 := fun P => ⟨by kernel_rfl, by kernel_rfl⟩
theorem gt36 : GetOk 36 := fun P => ⟨by kernel_rfl, by kernel_rfl⟩
theorem gt37 : GetOk 37 := fun P => ⟨by kernel_rfl, by kernel_rfl⟩
end Mine

namespace Mine
open PySem PySem.W

theorem get_all : ∀ j, j < 38 → GetOk j
  | 0, _ => gt0
  | 1, _ => gt1
  | 2, _ => gt2
  | 3, _ => gt3
  | 4, _ => gt4
  | 5, _ => gt5
  | 6, _ => gt6
  | 7, _ => gt7
  | 8, _ => gt8
  | 9, _ => gt9
  | 10, _ => gt10
  | 11, _ => gt11
  | 12, _ => gt12
  | 13, _ => gt13
  | 14, _ => gt14
  | 15, _ => gt15
  | 16, _ => gt16
  | 17, _ => gt17
  | 18, _ => gt18
  | 19, _ => gt19
  | 20, _ => gt20
  | 21, _ => gt21
  | 22, _ => gt22
  | 23, _ => gt23
  | 24, _ => gt24
  | 25, _ => gt25
  | 26, _ => gt26
  | 27, _ => gt27
  | 28, _ => gt28
  | 29, _ => gt29
  | 30, _ => gt30
  | 31, _ => gt31
  | 32, _ => gt32
  | 33, _ => gt33
  | 34, _ => gt34
  | 35, _ => gt35
  | 36, _ => gt36
  | 37, _ => gt37
  | n + 38, h => absurd h (by omega)
theorem piece_rn {w : World} {n N : Nat} {s s' r : Shared} {st : Stmt} {rest : List Stmt} {p p' : Pos} (h : Rn w n id id (exec st env0) s p .next s' p') (k : TR w N s' (restOf rest env0 cd0 p' B0) = some r) : TR w (n + N) s (restOf (st :: rest) env0 cd0 p B0) = some r := by
  unfold restOf
  rw [execs_cons_wrap]
  exact h.h _ _ N r k
noncomputable def Fin_ (w : World) (os : OsState) : Shared := (St T_26 250 2445 w os).abs
theorem tl27 (w : World) (os : OsState) : TR w 3 (St T_26 250 2445 w os).abs (restOf [] env0 cd0 ⟨213, 0, 223, 15⟩ B0) = some (Fin_ w os) := by kernel_rfl
theorem tl26 (w : World) (os : OsState) : TR w (27 + 3) (St T_25 245 2439 w os).abs (restOf [top 26] env0 cd0 ⟨210, 0, 212, 55⟩ B0) = some (Fin_ w os) :=
  piece_app (l := [top 26]) (rest := []) (segRun_of (pcT26 w os)) (tl27 w os)
theorem tl25 (w : World) (os : OsState) : TR w (27 + 30) (St T_24 240 2433 w os).abs (restOf [top 25, top 26] env0 cd0 ⟨205, 0, 209, 92⟩ B0) = some (Fin_ w os) :=
  piece_app (l := [top 25]) (rest := [top 26]) (segRun_of (pcT25 w os)) (tl26 w os)
theorem tl24 (w : World) (os : OsState) : TR w (27 + 57) (St T_23 235 2427 w os).abs (restOf [top 24, top 25, top 26] env0 cd0 ⟨189, 0, 204, 15⟩ B0) = some (Fin_ w os) :=
  piece_app (l := [top 24]) (rest := [top 25, top 26]) (segRun_of (pcT24 w os)) (tl25 w os)
theorem tl23 (w : World) (os : OsState) : TR w (27 + 84) (St T_22 230 2421 w os).abs (restOf [top 23, top 24, top 25, top 26] env0 cd0 ⟨180, 0, 188, 54⟩ B0) = some (Fin_ w os) :=
  piece_app (l := [top 23]) (rest := [top 24, top 25, top 26]) (segRun_of (pcT23 w os)) (tl24 w os)
theorem tl22 (w : World) (os : OsState) : TR w (34 + 111) (St T_21 223 2410 w os).abs (restOf [top 22, top 23, top 24, top 25, top 26] env0 cd0 ⟨173, 0, 179, 70⟩ B0) = some (Fin_ w os) :=
  piece_app (l := [top 22]) (rest := [top 23, top 24, top 25, top 26]) (segRun_of (pcT22 w os)) (tl23 w os)
theorem tl21 (w : World) (os : OsState) : TR w (27 + 145) (St T_20 218 2404 w os).abs (restOf [top 21, top 22, top 23, top 24, top 25, top 26] env0 cd0 ⟨169, 0, 172, 79⟩ B0) = some (Fin_ w os) :=
  piece_app (l := [top 21]) (rest := [top 22, top 23, top 24, top 25, top 26]) (segRun_of (pcT21 w os)) (tl22 w os)
theorem tl20 (w : World) (os : OsState) : TR w (31 + 172) (St T_19 211 2396 w os).abs (restOf [top 20, top 21, top 22, top 23, top 24, top 25, top 26] env0 cd0 ⟨163, 0, 168, 86⟩ B0) = some (Fin_ w os) :=
  piece_app (l := [top 20]) (rest := [top 21, top 22, top 23, top 24, top 25, top 26]) (segRun_of (pcT20 w os)) (tl21 w os)
theorem tl19 (w : World) (os : OsState) : TR w (27 + 203) (St T_18 206 2390 w os).abs (restOf [top 19, top 20, top 21, top 22, top 23, top 24, top 25, top 26] env0 cd0 ⟨145, 0, 162, 16⟩ B0) = some (Fin_ w os) :=
  piece_app (l := [top 19]) (rest := [top 20, top 21, top 22, top 23, top 24, top 25, top 26]) (segRun_of (pcT19 w os)) (tl20 w os)
theorem tl18 (w : World) (os : OsState) : TR w (27 + 230) (St T_17 201 2384 w os).abs (restOf [top 18, top 19, top 20, top 21, top 22, top 23, top 24, top 25, top 26] env0 cd0 ⟨138, 0, 144, 39⟩ B0) = some (Fin_ w os) :=
  piece_app (l := [top 18]) (rest := [top 19, top 20, top 21, top 22, top 23, top 24, top 25, top 26]) (segRun_of (pcT18 w os)) (tl19 w os)
theorem tl17 (w : World) (os : OsState) : TR w (32 + 257) (St T_16 194 2375 w os).abs (restOf [top 17, top 18, top 19, top 20, top 21, top 22, top 23, top 24, top 25, top 26] env0 cd0 ⟨137, 0, 137, 8⟩ B0) = some (Fin_ w os) :=
  piece_app (l := [top 17]) (rest := [top 18, top 19, top 20, top 21, top 22, top 23, top 24, top 25, top 26]) (segRun_of (pcT17 w os)) (tl18 w os)
theorem tl16 (w : World) (os : OsState) : TR w (10 + 289) (St T_15 194 2373 w os).abs (restOf [top 16, top 17, top 18, top 19, top 20, top 21, top 22, top 23, top 24, top 25, top 26] env0 cd0 ⟨124, 0, 136, 40⟩ B0) = some (Fin_ w os) :=
  piece_app (l := [top 16]) (rest := [top 17, top 18, top 19, top 20, top 21, top 22, top 23, top 24, top 25, top 26]) (segRun_of (pcT16 w os)) (tl17 w os)
theorem tl15 (w : World) (os : OsState) : TR w (30 + 299) (St T_14 187 2366 w os).abs (restOf [top 15, top 16, top 17, top 18, top 19, top 20, top 21, top 22, top 23, top 24, top 25, top 26] env0 cd0 ⟨113, 0, 123, 40⟩ B0) = some (Fin_ w os) :=
  piece_app (l := [top 15]) (rest := [top 16, top 17, top 18, top 19, top 20, top 21, top 22, top 23, top 24, top 25, top 26]) (segRun_of (pcT15 w os)) (tl16 w os)
theorem tl14 (w : World) (os : OsState) : TR w (30 + 329) (St T_13 180 2359 w os).abs (restOf [top 14, top 15, top 16, top 17, top 18, top 19, top 20, top 21, top 22, top 23, top 24, top 25, top 26] env0 cd0 ⟨94, 0, 112, 40⟩ B0) = some (Fin_ w os) :=
  piece_app (l := [top 14]) (rest := [top 15, top 16, top 17, top 18, top 19, top 20, top 21, top 22, top 23, top 24, top 25, top 26]) (segRun_of (pcT14 w os)) (tl15 w os)
theorem tl13 (w : World) (os : OsState) : TR w (30 + 359) (St T_12 173 2352 w os).abs (restOf [top 13, top 14, top 15, top 16, top 17, top 18, top 19, top 20, top 21, top 22, top 23, top 24, top 25, top 26] env0 cd0 ⟨83, 0, 93, 40⟩ B0) = some (Fin_ w os) :=
  piece_app (l := [top 13]) (rest := [top 14, top 15, top 16, top 17, top 18, top 19, top 20, top 21, top 22, top 23, top 24, top 25, top 26]) (segRun_of (pcT13 w os)) (tl14 w os)
theorem tl12 (w : World) (os : OsState) : TR w (30 + 389) (St T_11 166 2345 w os).abs (restOf [top 12, top 13, top 14, top 15, top 16, top 17, top 18, top 19, top 20, top 21, top 22, top 23, top 24, top 25, top 26] env0 cd0 ⟨81, 0, 82, 82⟩ B0) = some (Fin_ w os) :=
  piece_app (l := [top 12]) (rest := [top 13, top 14, top 15, top 16, top 17, top 18, top 19, top 20, top 21, top 22, top 23, top 24, top 25, top 26]) (segRun_of (pcT12 w os)) (tl13 w os)
theorem tl11 (w : World) (os : OsState) : TR w (30 + 419) (St T_10 159 2338 w os).abs (restOf [top 11, top 12, top 13, top 14, top 15, top 16, top 17, top 18, top 19, top 20, top 21, top 22, top 23, top 24, top 25, top 26] env0 cd0 ⟨80, 0, 80, 8⟩ B0) = some (Fin_ w os) :=
  piece_app (l := [top 11]) (rest := [top 12, top 13, top 14, top 15, top 16, top 17, top 18, top 19, top 20, top 21, top 22, top 23, top 24, top 25, top 26]) (segRun_of (pcT11 w os)) (tl12 w os)
theorem tl10 (w : World) (os : OsState) : TR w (10 + 449) (St T_9 159 2336 w os).abs (restOf [top 10, top 11, top 12, top 13, top 14, top 15, top 16, top 17, top 18, top 19, top 20, top 21, top 22, top 23, top 24, top 25, top 26] env0 cd0 ⟨75, 0, 79, 23⟩ B0) = some (Fin_ w os) :=
  piece_app (l := [top 10]) (rest := [top 11, top 12, top 13, top 14, top 15, top 16, top 17, top 18, top 19, top 20, top 21, top 22, top 23, top 24, top 25, top 26]) (segRun_of (pcT10 w os)) (tl11 w os)
theorem tl9 (w : World) (os : OsState) : TR w (31 + 459) (St T_8 152 2328 w os).abs (restOf [top 9, top 10, top 11, top 12, top 13, top 14, top 15, top 16, top 17, top 18, top 19, top 20, top 21, top 22, top 23, top 24, top 25, top 26] env0 cd0 ⟨74, 0, 74, 13⟩ B0) = some (Fin_ w os) :=
  piece_app (l := [top 9]) (rest := [top 10, top 11, top 12, top 13, top 14, top 15, top 16, top 17, top 18, top 19, top 20, top 21, top 22, top 23, top 24, top 25, top 26]) (segRun_of (pcT9 w os)) (tl10 w os)
theorem tl8 (w : World) (os : OsState) : TR w (12528 + 490) (St T_7 113 377 w os).abs (restOf [top 8, top 9, top 10, top 11, top 12, top 13, top 14, top 15, top 16, top 17, top 18, top 19, top 20, top 21, top 22, top 23, top 24, top 25, top 26] env0 cd0 ⟨72, 0, 73, 30⟩ B0) = some (Fin_ w os) :=
  piece_rn (rest := [top 9, top 10, top 11, top 12, top 13, top 14, top 15, top 16, top 17, top 18, top 19, top 20, top 21, top 22, top 23, top 24, top 25, top 26]) (st8 os (sb37 w) get_all) (tl9 w os)
theorem tl7 (w : World) (os : OsState) : TR w (30 + 13018) (St T_6 106 370 w os).abs (restOf [top 7, top 8, top 9, top 10, top 11, top 12, top 13, top 14, top 15, top 16, top 17, top 18, top 19, top 20, top 21, top 22, top 23, top 24, top 25, top 26] env0 cd0 ⟨71, 0, 71, 6⟩ B0) = some (Fin_ w os) :=
  piece_app (l := [top 7]) (rest := [top 8, top 9, top 10, top 11, top 12, top 13, top 14, top 15, top 16, top 17, top 18, top 19, top 20, top 21, top 22, top 23, top 24, top 25, top 26]) (segRun_of (pcT7 w os)) (tl8 w os)
theorem tl6 (w : World) (os : OsState) : TR w (999 + 13048) (St T_5 95 310 w os).abs (restOf [top 6, top 7, top 8, top 9, top 10, top 11, top 12, top 13, top 14, top 15, top 16, top 17, top 18, top 19, top 20, top 21, top 22, top 23, top 24, top 25, top 26] env0 cd0 ⟨70, 0, 70, 8⟩ B0) = some (Fin_ w os) :=
  piece_app (l := [top 6]) (rest := [top 7, top 8, top 9, top 10, top 11, top 12, top 13, top 14, top 15, top 16, top 17, top 18, top 19, top 20, top 21, top 22, top 23, top 24, top 25, top 26]) (segRun_of (pcT6 w os)) (tl7 w os)
theorem tl5 (w : World) (os : OsState) : TR w (10 + 14047) (St T_4 95 308 w os).abs (restOf [top 5, top 6, top 7, top 8, top 9, top 10, top 11, top 12, top 13, top 14, top 15, top 16, top 17, top 18, top 19, top 20, top 21, top 22, top 23, top 24, top 25, top 26] env0 cd0 ⟨62, 0, 69, 14⟩ B0) = some (Fin_ w os) :=
  piece_app (l := [top 5]) (rest := [top 6, top 7, top 8, top 9, top 10, top 11, top 12, top 13, top 14, top 15, top 16, top 17, top 18, top 19, top 20, top 21, top 22, top 23, top 24, top 25, top 26]) (segRun_of (pcT5 w os)) (tl6 w os)
theorem tl4 (w : World) (os : OsState) : TR w (33 + 14057) (St T_3 88 298 w os).abs (restOf [top 4, top 5, top 6, top 7, top 8, top 9, top 10, top 11, top 12, top 13, top 14, top 15, top 16, top 17, top 18, top 19, top 20, top 21, top 22, top 23, top 24, top 25, top 26] env0 cd0 ⟨61, 0, 61, 8⟩ B0) = some (Fin_ w os) :=
  piece_app (l := [top 4]) (rest := [top 5, top 6, top 7, top 8, top 9, top 10, top 11, top 12, top 13, top 14, top 15, top 16, top 17, top 18, top 19, top 20, top 21, top 22, top 23, top 24, top 25, top 26]) (segRun_of (pcT4 w os)) (tl5 w os)
theorem tl3 (w : World) (os : OsState) : TR w (10 + 14090) (St T_2 88 296 w os).abs (restOf [top 3, top 4, top 5, top 6, top 7, top 8, top 9, top 10, top 11, top 12, top 13, top 14, top 15, top 16, top 17, top 18, top 19, top 20, top 21, top 22, top 23, top 24, top 25, top 26] env0 cd0 ⟨5, 0, 60, 16⟩ B0) = some (Fin_ w os) :=
  piece_app (l := [top 3]) (rest := [top 4, top 5, top 6, top 7, top 8, top 9, top 10, top 11, top 12, top 13, top 14, top 15, top 16, top 17, top 18, top 19, top 20, top 21, top 22, top 23, top 24, top 25, top 26]) (segRun_of (pcT3 w os)) (tl4 w os)
theorem tl2 (w : World) (os : OsState) : TR w (493 + 14100) (St T_1 22 196 w os).abs (restOf [top 2, top 3, top 4, top 5, top 6, top 7, top 8, top 9, top 10, top 11, top 12, top 13, top 14, top 15, top 16, top 17, top 18, top 19, top 20, top 21, top 22, top 23, top 24, top 25, top 26] env0 cd0 ⟨4, 0, 4, 8⟩ B0) = some (Fin_ w os) :=
  piece_app (l := [top 2]) (rest := [top 3, top 4, top 5, top 6, top 7, top 8, top 9, top 10, top 11, top 12, top 13, top 14, top 15, top 16, top 17, top 18, top 19, top 20, top 21, top 22, top 23, top 24, top 25, top 26]) (segRun_of (pcT2 w os)) (tl3 w os)
theorem tl1 (w : World) (os : OsState) : TR w (10 + 14593) (St T_0 22 194 w os).abs (restOf [top 1, top 2, top 3, top 4, top 5, top 6, top 7, top 8, top 9, top 10, top 11, top 12, top 13, top 14, top 15, top 16, top 17, top 18, top 19, top 20, top 21, top 22, top 23, top 24, top 25, top 26] env0 cd0 ⟨1, 0, 3, 12⟩ B0) = some (Fin_ w os) :=
  piece_app (l := [top 1]) (rest := [top 2, top 3, top 4, top 5, top 6, top 7, top 8, top 9, top 10, top 11, top 12, top 13, top 14, top 15, top 16, top 17, top 18, top 19, top 20, top 21, top 22, top 23, top 24, top 25, top 26]) (segRun_of (pcT1 w os)) (tl2 w os)
theorem tl0 (w : World) (os : OsState) : TR w (30 + 14603) (St T_b 15 187 w os).abs (restOf [top 0, top 1, top 2, top 3, top 4, top 5, top 6, top 7, top 8, top 9, top 10, top 11, top 12, top 13, top 14, top 15, top 16, top 17, top 18, top 19, top 20, top 21, top 22, top 23, top 24, top 25, top 26] env0 cd0 pos0 B0) = some (Fin_ w os) :=
  piece_app (l := [top 0]) (rest := [top 1, top 2, top 3, top 4, top 5, top 6, top 7, top 8, top 9, top 10, top 11, top 12, top 13, top 14, top 15, top 16, top 17, top 18, top 19, top 20, top 21, top 22, top 23, top 24, top 25, top 26]) (segRun_of (pcT0 w os)) (tl1 w os)
theorem body_eq27 : behindTheImports pw = [top 0, top 1, top 2, top 3, top 4, top 5, top 6, top 7, top 8, top 9, top 10, top 11, top 12, top 13, top 14, top 15, top 16, top 17, top 18, top 19, top 20, top 21, top 22, top 23, top 24, top 25, top 26] := by kernel_rfl
end Mine

namespace Mine
open PySem PySem.W PyProof.Rows

noncomputable abbrev rr : OpenRow := PySem.Challenge.rw_wb0095_01.row
noncomputable def qv : Program := { pw with main := { pw.main with body := [top 26] } }
noncomputable def XPl (mg : Str → Option Value) (_ : Heap) : Prop := mg "law" = some (.ref 249)
noncomputable def Xtl (s : Shared) : Bool := s.heap.nsMap mainGlobals "law" == some (.ref 249)
noncomputable def looseN : List Str := ["_wall", "Whitespace", "Int2AP", "b1_set", "in_table_b1", "b3_exceptions", "map_table_b3", "_raise_serialization_error", "_escape_cdata", "_escape_attrib", "_escape_attrib_html", "_escape_cdata_c14n", "_law_taken", "_law_drawn", "_law_text", "_law_escaped", "_law_line", "_law_cases", "_law_judged", "_law_plain", "_law_letters"]
noncomputable def asK : List Addr := List.range 250
theorem asK_eq (P : Params) : asK = (KK P).map (·.1) := by kernel_rfl
noncomputable abbrev hk : Hook := kHook KK asK asK_eq
noncomputable def fPos : Stmt → Pos
  | .FunctionDef _ _ _ _ _ _ _ _ _ p => p
  | _ => ⟨0, 0, 0, 0⟩
noncomputable def lawD : DefRec := ⟨"law", fArgs (top 26), fBody (top 26), fScope (top 26), fPos (top 26)⟩
theorem law_said : PySem.Challenge.rw_wb0095_01.wellSaid = true := by rw [PySem.W.Fast.te9446332074065402090]; kernel_rfl
theorem holds_of (left : LeftO pw qv looseN Xtl hk.obs hk.val 30000) (call : WalkO qv looseN XPl hk.says rr.toRowW lawD [] fun f vs => PySem.call f vs) : PySem.Challenge.rw_wb0095_01.Holds := by
  refine holds_law law_said fun said => ?_
  refine holds_open (q := qv) (loose := looseN) (Xt := Xtl) (XP := XPl) (Yf := hk.obs) (Ya := hk.val) (YP := hk.says) (N := 30000) left hk.of hk.keeps
    (fun s e => beq_iff_eq.mp e) (fun _ _ _ h _ => h) (by kernel_rfl) (by kernel_rfl) (by kernel_rfl) (fun s e => recFacts_of (by rfl)) (by rfl) said ?_ ⟨rfl, rfl, rfl, rfl, rfl, by decide +kernel⟩ ?_ call
  · kernel_rfl
  · w_witness2
end Mine

namespace Mine
open PySem PySem.W PyProof.Rows

noncomputable def HF (P : Params) : Heap := ⟨((KK P).map (·.2)).toArray, life0⟩
noncomputable def SF (w : World) (os : OsState) : Shared := ⟨HF w.params, #[], {}, 2445, os⟩
theorem hf_eq (P : Params) : absHeap (T_26 P) 250 life0 = HF P := by kernel_rfl
theorem lk_statics (w : World) : staticsOk (importedModules pw.main.body) (boot_heap w.params) (HF w.params) = true := by kernel_rfl
theorem lk_names (w : World) : namesBound pw (HF w.params) = true := by kernel_rfl
theorem lk_gens (w : World) (os : OsState) : gensDone (SF w os) = true := by kernel_rfl
theorem lk_laid (w : World) : laidKept (boot_heap w.params) (HF w.params) = true := by kernel_rfl
theorem lk_obs (w : World) (os : OsState) : hk.obs (SF w os) = hk.val w := by kernel_rfl
theorem lk_law (w : World) (os : OsState) : Xtl (SF w os) = true := by kernel_rfl
end Mine

namespace Mine
open PySem PySem.W PyProof.Rows

theorem ls1 (w : World) (os : OsState) : seen ((recsOf qv).map (·.name)) (ownsOf qv) [] { SF w os with gens := #[] } = expectedOf qv := by kernel_rfl
theorem ls2 (w : World) : (HF w.params).bltView = bltViewBooted := by kernel_rfl
theorem ls3a (w : World) : (HF w.params).keysOk (looseW qv looseN) ((recsOf qv).map (·.name)) ((litsOf qv).map (·.1)) ((clssOf qv (looseW qv looseN)).map (·.name)) = true := by kernel_rfl
theorem ls3b (w : World) : (HF w.params).accountedOkI (importedModules pw.main.body) = true := by kernel_rfl
theorem ls3c (w : World) : ((HF w.params).isNs mainGlobals && (HF w.params).isNs builtinsNs && tablesOk qv (HF w.params)) = true := by kernel_rfl
theorem ls4 (w : World) (os : OsState) : tabsOk qv (SF w os) = true := by kernel_rfl
theorem ls5 (w : World) (os : OsState) : pinSeenD qv (drecsOf qv) (SF w os) = pinGoodD (drecsOf qv) := by kernel_rfl
theorem ls6 (w : World) (os : OsState) : plainSeenE qv (looseW qv looseN) (SF w os) = plainGoodE qv (looseW qv looseN) := by kernel_rfl
theorem ls7 (w : World) (os : OsState) : plainSeenD qv looseN (SF w os) = plainGoodD qv looseN := by kernel_rfl
theorem ls8 (w : World) (os : OsState) : wideSeen qv (SF w os) = wideGood qv := by kernel_rfl
theorem ls9 (w : World) (os : OsState) : clsSeenW qv looseN (SF w os) = clsGoodW qv looseN := by kernel_rfl
theorem ls_all (w : World) (os : OsState) : openSeen qv looseN (importedModules pw.main.body) Xtl true (SF w os) = openGood qv looseN := by
  unfold openSeen openGood
  refine looks_pair (ls1 w os) (looks_pair (ls2 w) (looks_pair ?_ (looks_pair (ls4 w os) (looks_pair (ls5 w os) (looks_pair (ls6 w os) (looks_pair (ls7 w os) (looks_pair (ls8 w os) (ls9 w os))))))))
  have h3 := ls3c w
  simp only [Bool.and_eq_true] at h3
  show ((HF w.params).keysOk _ _ _ _ && (HF w.params).accountedOkI _ && (HF w.params).isNs mainGlobals && (HF w.params).isNs builtinsNs && tablesOk qv (HF w.params) && Xtl (SF w os) && (if true = true then (#[] : Array GenState).size == 0 else _)) = true
  rw [ls3a, ls3b, h3.1.1, h3.1.2, h3.2, lk_law]
  rfl
theorem run_pre (w : World) (os : OsState) : topGo treeTable pw w 11 (some (.ref 6)) 12 ⟨boot_heap w.params, Array.mk [], boot_drawn, boot_toks, os⟩ (topStub pw) =
    some ((St T_b 15 187 w os).abs, ⟨denote treeTable cd0, cd0, pos0, [topFrame pos0]⟩) := by kernel_rfl
theorem run_block (w : World) (os : OsState) : segRun treeTable pw w 11 (some (.ref 6)) 1 1 (St T_b 15 187 w os).abs (blockOf (behindTheImports pw) env0 cd0 pos0 [topFrame pos0]) = some (.next, (St T_b 15 187 w os).abs, cd0, pos0) := by kernel_rfl
theorem fin_eq (w : World) (os : OsState) : Fin_ w os = SF w os := by
  unfold Fin_ St SharedT.abs SF
  dsimp only
  rw [hf_eq]
end Mine

namespace Mine
open PySem PySem.W PyProof.Rows
theorem run_k (w : World) (os : OsState) : TR w (30 + 14603) (St T_b 15 187 w os).abs (restOf (behindTheImports pw) env0 cd0 pos0 B0) = some (SF w os) := by
  rw [body_eq27, ← fin_eq]
  exact tl0 w os
theorem run_b (w : World) (os : OsState) : TR w (1 + (30 + 14603)) (St T_b 15 187 w os).abs ⟨denote treeTable cd0, cd0, pos0, [topFrame pos0]⟩ = some (SF w os) :=
  piece_block (b := behindTheImports pw) (env := env0) (c := cd0) (run_block w os) (run_k w os)
theorem run_a (w : World) (os : OsState) : topRun treeTable pw w 11 (some (.ref 6)) (12 + (1 + (30 + 14603))) ⟨boot_heap w.params, Array.mk [], boot_drawn, boot_toks, os⟩ (topStub pw) = some (SF w os) :=
  go_top (run_pre w os) (run_b w os)
theorem run_all : ∃ M, Nat.ble M 30000 = true ∧ ∀ (w : World) (os : OsState), topRun treeTable pw w 11 (some (.ref 6)) M ⟨boot_heap w.params, Array.mk [], boot_drawn, boot_toks, os⟩ (topStub pw) = some (SF w os) :=
  ⟨12 + (1 + (30 + 14603)), by decide, run_a⟩
theorem head_left : LeftO pw qv looseN Xtl hk.obs hk.val 30000 := by
  obtain ⟨M, hM, hr⟩ := run_all
  refine LeftO.of_pieces (H₀ := boot_heap) (H₁ := HF) (gs₀ := Array.mk []) (gs₁ := #[]) (d₀ := boot_drawn) (d₁ := {}) (k₀ := boot_toks) (k₁ := 2445) (m₀ := 11) (ann := some (.ref 6)) (M := M)
    (boot_open (by rfl) (by rfl) (fun s => by rfl)) (fun w => by kernel_rfl) hr hM fun w => funext fun os => looks_pair ?_ (looks_pair (ls_all w os) (lk_obs w os))
  have h1 := lk_statics w
  have h2 := lk_names w
  have h3 := lk_gens w os
  have h4 := lk_laid w
  unfold SF at h3
  rw [h1, h2, h3, h4]
  rfl
end Mine

namespace Mine
open PySem PySem.W PyProof.Rows

theorem ints_of : ∀ {xs : List WData}, WShape.hasItems [] xs .int = true → ∃ l : List Int, xs = l.map .int
  | [], _ => ⟨[], rfl⟩
  | x :: r, h => by
    simp only [WShape.hasItems, Bool.and_eq_true] at h
    obtain ⟨i, rfl⟩ := hasW_int h.1
    obtain ⟨l, rfl⟩ := ints_of h.2
    exact ⟨i :: l, rfl⟩
theorem well_ints {P : Params} {h : Heap} : ∀ {l : List Int} {vs : List Value}, WellAll P h vs (l.map .int) → IsAll h [] (l.map .int) vs
  | [], vs, x => by cases x; simp [IsAll]
  | i :: l, vs, x => by
    cases x with
    | cons a b =>
      cases a
      simp only [List.map_cons, IsAll, Is]
      exact ⟨_, _, rfl, ⟨_, rfl⟩, well_ints b⟩
theorem len63 (l : List Int) (h2 : rr.pre.holds [] { args := [.list (l.map .int)] } = true) : l.length ≤ 63 := by
  have h3 : (WTm.and (.not (.lt (.lit (.int 63)) (.len (.arg 0)))) (.lit (.bool true))).holds [] { args := [.list (l.map .int)] } = true := h2
  simp [WTm.holds, WTm.value, less?, Num.less?] at h3
  by_cases h : l.length ≤ 63
  · exact h
  · exfalso
    have e : decide ((63 : Int) < (l.length : Int)) = true := decide_eq_true (by omega)
    rw [e] at h3
    cases h3
theorem args_of {args : List WData} (h : rr.claim.pre args = true) : ∃ l : List Int, args = [.list (l.map .int)] ∧ l.length ≤ 63 := by
  obtain ⟨h1, h2⟩ := pre_splitW (r := rr.toRowW) h
  obtain ⟨d, r, rfl, hd, hr⟩ := hasAllW_cons h1
  obtain rfl := hasAllW_nil hr
  obtain ⟨xs, rfl, hx⟩ := hasW_list hd
  obtain ⟨l, rfl⟩ := ints_of hx
  exact ⟨l, rfl, len63 l h2⟩
theorem post_true (a b : List WData) : rr.claim.post a (.bool true) b = true := by
  show (WShape.has [] (.bool true) .bool && (WTm.eq .res (.lit (.bool true))).holds [] { args := a, res := some (.bool true), after := b }) = true
  simp [WShape.has, WShape.arms, WTm.holds, WTm.value, same]
theorem walk : WalkO qv looseN XPl hk.says rr.toRowW lawD [] fun f vs => PySem.call f vs := by
  intro w s₀ s₁ mg mb G Y a o pm cd doc dV kV ho hd hcd hD hmg hg args vals as hpre hlay hrd hwl hlo
  have ha : a = 249 := by
    have h1 : mg "law" = some (.ref 249) := G.X
    have h2 : mg "law" = some (.ref a) := hmg
    rw [h1] at h2
    cases h2; rfl
  subst ha
  obtain ⟨l, rfl, hl⟩ := args_of hpre
  have hi : IsAll s₁.heap [] [.lst (l.map .int)] vals := by
    cases hwl with
    | cons a b =>
      cases b
      cases a with
      | list hv hx =>
        simp only [IsAll, Is]
        exact ⟨_, _, rfl, ⟨_, _, rfl, by simp, ⟨_, hv⟩, well_ints hx⟩, rfl⟩
  have h := op_law (w := w) (A := callerA) (X := []) l (by omega) ⟨rfl, by decide, by decide⟩ (s := s₁) (vs := vals) Y (fun _ h => by cases h) hi
  refine wpAny_mono h (fun v s' x => ?_) fun _ _ x => x.elim
  obtain ⟨kp, iv⟩ := x
  simp only [Is] at iv
  subst iv
  obtain ⟨hh, tk, rfl, hk⟩ := kp.k
  exact ⟨.inl ⟨_, .bool true, [], rfl, fun _ => rfl, .bool _, post_true _ _, fun _ => ⟨List.nodup_nil, fun _ h => by cases h⟩⟩, OldK.of_keep hk, rfl, AllBare.of_eq hg⟩
end Mine

open PySem PySem.W PyProof.Rows
set_option maxHeartbeats 8000000 in
theorem PySem.Challenge.cw_wb0095_01_holds : PySem.Challenge.rw_wb0095_01.Holds := by
  exact Mine.holds_of Mine.head_left Mine.walk
