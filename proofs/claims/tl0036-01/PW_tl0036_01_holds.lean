import PyProof.Rows.All
import Wide.All
import OpenK.AllK
import Wide.FinOn
import PySem.Challenge.RW_tl0036_01
set_option Elab.async false
set_option linter.unusedVariables false
set_option compiler.extract_closed false

section
open PySem PySem.W PyProof.Rows
set_option maxRecDepth 100000
namespace Mine
noncomputable section
abbrev P0 : Program := PySem.Challenge.pw_tl0036_01
def stA (i : Nat) : Stmt := (P0.main.body[i]?).getD (.Pass ⟨0, 0, 0, 0⟩)
noncomputable def fA (i : Nat) : Arguments := match stA i with
  | .FunctionDef _ a _ _ _ _ _ _ _ _ => a
  | _ => ⟨[], [], none, [], [], none, []⟩
noncomputable def fB (i : Nat) : List Stmt := match stA i with
  | .FunctionDef _ _ b _ _ _ _ _ _ _ => b
  | _ => []
noncomputable def fS (i : Nat) : Scope := match stA i with
  | .FunctionDef _ _ _ _ _ _ sc _ _ _ => sc
  | _ => P0.main.scope
-- the table b3_exceptions, read off its display
noncomputable def b3KV : List (Option Expr) × List Expr := match stA 16 with
  | .Assign _ (.Dict ks vs _) _ => (ks, vs)
  | _ => ([], [])
noncomputable def keyOf : Option Expr → Int
  | some (.Constant (.int i) _ _) => i
  | _ => 0
noncomputable def strOf : Expr → Str
  | .Constant (.str x) _ _ => x
  | _ => Str.mk #[]
noncomputable def b3Go : List (Option Expr) → List Expr → Nat → List DictEntry
  | k :: ks, v :: vs, t => ⟨keyOf k, .int (keyOf k) t, .str (strOf v) (t + 1)⟩ :: b3Go ks vs (t + 3)
  | _, _, _ => []
noncomputable def b3Go2 : List (Option Expr) → List Expr → Nat → List DictEntry
  | k :: ks, v :: vs, t => ⟨keyOf k, .int (keyOf k) t, .str (strOf v) (t + 1)⟩ :: b3Go2 ks vs (t + 2)
  | _, _, _ => []
-- the last four are laid otherwise (a run of fifteen or fewer)
noncomputable def b3L : List DictEntry := b3Go (b3KV.1.take 646) (b3KV.2.take 646) 345 ++ b3Go2 (b3KV.1.drop 646) (b3KV.2.drop 646) 2283
noncomputable def dictO (es : List DictEntry) : Obj := ⟨.type "dict", none, .dict es.toArray es.length, #[]⟩
noncomputable def b3O : Obj := dictO b3L
noncomputable def subO (j : Nat) : Obj := dictO ((b3L.drop (17 * j)).take 17)

noncomputable def setL : List (Int × Value) := [(65024, .int 65024 294), (65025, .int 65025 295), (65026, .int 65026 296), (65027, .int 65027 297), (65028, .int 65028 298), (65029, .int 65029 299),
  (6150, .int 6150 280), (65030, .int 65030 300), (65031, .int 65031 301), (65032, .int 65032 302), (65033, .int 65033 303), (6155, .int 6155 281), (6156, .int 6156 282), (6157, .int 6157 283),
  (8203, .int 8203 284), (8204, .int 8204 285), (8205, .int 8205 286), (65034, .int 65034 304), (65035, .int 65035 305), (65036, .int 65036 306), (65037, .int 65037 307), (65038, .int 65038 308),
  (65039, .int 65039 309), (173, .int 173 278), (847, .int 847 279), (8288, .int 8288 287), (65279, .int 65279 288)]
noncomputable def setT (led : Bool) : SetTable := { mask := 127, place := #[0, 1, 2, 3, 4, 5, 6, 7, 8, 9, 10, 11, 12, 13, 14, 15, 16, 17, 18, 19, 20, 21, 22, 45, 79, 96, 127], dummies := #[], finger := 0, led := led, moves := 2, plain := true }
noncomputable def setO (P : Params) : Obj := ⟨.type "set", none, .set setL.toArray 29 (setT (!P.followText "set-order")), #[]⟩

theorem b3L_len : b3L.length = 650 := by decide +kernel

noncomputable def ob11 : Obj := ⟨(.type "tuple"), none, (.seq ([] : List Value).toArray 0), ([] : List (Option Value)).toArray⟩
noncomputable def ob13 : Obj := ⟨(.type "code"), none, (.fields ([(.str (Str.ofString "<module>") 182), (.str (Str.ofString "<module>") 183), (.str (Str.ofString "/claim/cut.py") 184), (.int 1 0), (.int 0 0), (.int 0 0), (.int 0 0), (.int 0 0), (.ref 11), (.bool false), (.int 181 0), (.ref 12), .none, .none, .none, .none, (.int 185 0), (.int 1 0), (.str (Str.ofString "/claim/cut.py") 186)] : List Value).toArray), ([] : List (Option Value)).toArray⟩
noncomputable def ob14 : Obj := ⟨(.type "frame"), none, .plain, ([some (.ref 13), some (.ref 3), some (.ref 3), none, some (.str (Str.ofString "__main__") 164), none, some (.ref 0)] : List (Option Value)).toArray⟩
noncomputable def ob15 : Obj := ⟨(.type "tuple"), none, (.seq ([] : List Value).toArray 0), ([] : List (Option Value)).toArray⟩
noncomputable def ob16 : Obj := ⟨.none, none, (.fields ([] : List Value).toArray), ([] : List (Option Value)).toArray⟩
noncomputable def ob17 : Obj := ⟨(.type "tuple"), none, (.seq ([(.str (Str.ofString "ch_a") 198), (.str (Str.ofString "ch_b") 199)] : List Value).toArray 0), ([] : List (Option Value)).toArray⟩
noncomputable def ob18 : Obj := ⟨(.type "tuple"), none, (.seq ([] : List Value).toArray 0), ([] : List (Option Value)).toArray⟩
noncomputable def ob19 : Obj := ⟨.none, none, (.func { name := (Str.ofString "_substitution_cost"), qualname := (Str.ofString "_substitution_cost"), params := fA 4, body := .stmts (fB 4), scope := fS 4, globals := 0, closure := [], defaults := .none, kwdefaults := .none, doc := .none, pyModule := .none, annotations := none, code := .none, closureTuple := .none, builtins := 0 }), ([] : List (Option Value)).toArray⟩
noncomputable def ob20 : Obj := ⟨(.type "code"), none, (.fields ([(.str (Str.ofString "_substitution_cost") 195), (.str (Str.ofString "_substitution_cost") 196), (.str (Str.ofString "/claim/cut.py") 197), (.int 5 0), (.int 2 0), (.int 0 0), (.int 0 0), (.int 3 0), (.ref 15), (.bool true), (.int 181 0), (.ref 16), .none, (.ref 17), (.ref 18), (.ref 19), (.int 200 0), (.int 5 0), (.str (Str.ofString "/claim/cut.py") 201)] : List Value).toArray), ([] : List (Option Value)).toArray⟩
noncomputable def ob21 : Obj := ⟨(.type "function"), none, (.func { name := (Str.ofString "_substitution_cost"), qualname := (Str.ofString "_substitution_cost"), params := fA 4, body := .stmts (fB 4), scope := fS 4, globals := 3, closure := [], defaults := .none, kwdefaults := .none, doc := .none, pyModule := (.str (Str.ofString "cpy313.traceback") 187), annotations := none, code := (.ref 20), closureTuple := .none, builtins := 0 }), ([] : List (Option Value)).toArray⟩
noncomputable def ob22 : Obj := ⟨(.type "tuple"), none, (.seq ([] : List Value).toArray 0), ([] : List (Option Value)).toArray⟩
noncomputable def ob23 : Obj := ⟨.none, none, (.fields ([] : List Value).toArray), ([] : List (Option Value)).toArray⟩
noncomputable def ob24 : Obj := ⟨(.type "tuple"), none, (.seq ([(.str (Str.ofString "a") 206), (.str (Str.ofString "b") 207), (.str (Str.ofString "max_cost") 208), (.str (Str.ofString "pre") 209), (.str (Str.ofString "post") 210), (.str (Str.ofString "row") 211), (.str (Str.ofString "result") 212), (.str (Str.ofString "bindex") 213), (.str (Str.ofString "bchar") 214), (.str (Str.ofString "distance") 215), (.str (Str.ofString "minimum") 216), (.str (Str.ofString "index") 217), (.str (Str.ofString "substitute") 218), (.str (Str.ofString "insert_delete") 219)] : List Value).toArray 0), ([] : List (Option Value)).toArray⟩
noncomputable def ob25 : Obj := ⟨(.type "tuple"), none, (.seq ([] : List Value).toArray 0), ([] : List (Option Value)).toArray⟩
noncomputable def ob26 : Obj := ⟨.none, none, (.func { name := (Str.ofString "_levenshtein_distance"), qualname := (Str.ofString "_levenshtein_distance"), params := fA 5, body := .stmts (fB 5), scope := fS 5, globals := 0, closure := [], defaults := .none, kwdefaults := .none, doc := .none, pyModule := .none, annotations := none, code := .none, closureTuple := .none, builtins := 0 }), ([] : List (Option Value)).toArray⟩
noncomputable def ob27 : Obj := ⟨(.type "code"), none, (.fields ([(.str (Str.ofString "_levenshtein_distance") 203), (.str (Str.ofString "_levenshtein_distance") 204), (.str (Str.ofString "/claim/cut.py") 205), (.int 11 0), (.int 3 0), (.int 0 0), (.int 0 0), (.int 3 0), (.ref 22), (.bool true), (.int 181 0), (.ref 23), .none, (.ref 24), (.ref 25), (.ref 26), (.int 220 0), (.int 11 0), (.str (Str.ofString "/claim/cut.py") 221)] : List Value).toArray), ([] : List (Option Value)).toArray⟩
noncomputable def ob28 : Obj := ⟨(.type "function"), none, (.func { name := (Str.ofString "_levenshtein_distance"), qualname := (Str.ofString "_levenshtein_distance"), params := fA 5, body := .stmts (fB 5), scope := fS 5, globals := 3, closure := [], defaults := .none, kwdefaults := .none, doc := .none, pyModule := (.str (Str.ofString "cpy313.traceback") 187), annotations := none, code := (.ref 27), closureTuple := .none, builtins := 0 }), ([] : List (Option Value)).toArray⟩
noncomputable def ob29 : Obj := ⟨(.type "tuple"), none, (.seq ([] : List Value).toArray 0), ([] : List (Option Value)).toArray⟩
noncomputable def ob30 : Obj := ⟨.none, none, (.fields ([] : List Value).toArray), ([] : List (Option Value)).toArray⟩
noncomputable def ob31 : Obj := ⟨(.type "tuple"), none, (.seq ([(.str (Str.ofString "a") 228), (.str (Str.ofString "b") 229)] : List Value).toArray 0), ([] : List (Option Value)).toArray⟩
noncomputable def ob32 : Obj := ⟨(.type "tuple"), none, (.seq ([] : List Value).toArray 0), ([] : List (Option Value)).toArray⟩
noncomputable def ob33 : Obj := ⟨.none, none, (.func { name := (Str.ofString "gt"), qualname := (Str.ofString "gt"), params := fA 7, body := .stmts (fB 7), scope := fS 7, globals := 0, closure := [], defaults := .none, kwdefaults := .none, doc := .none, pyModule := .none, annotations := none, code := .none, closureTuple := .none, builtins := 0 }), ([] : List (Option Value)).toArray⟩
noncomputable def ob34 : Obj := ⟨(.type "code"), none, (.fields ([(.str (Str.ofString "gt") 225), (.str (Str.ofString "gt") 226), (.str (Str.ofString "/claim/cut.py") 227), (.int 50 0), (.int 2 0), (.int 0 0), (.int 0 0), (.int 3 0), (.ref 29), (.bool true), (.int 181 0), (.ref 30), .none, (.ref 31), (.ref 32), (.ref 33), (.int 230 0), (.int 50 0), (.str (Str.ofString "/claim/cut.py") 231)] : List Value).toArray), ([] : List (Option Value)).toArray⟩
noncomputable def ob35 : Obj := ⟨(.type "function"), none, (.func { name := (Str.ofString "gt"), qualname := (Str.ofString "gt"), params := fA 7, body := .stmts (fB 7), scope := fS 7, globals := 3, closure := [], defaults := .none, kwdefaults := .none, doc := .none, pyModule := (.str (Str.ofString "cpy313.operator") 223), annotations := none, code := (.ref 34), closureTuple := .none, builtins := 0 }), ([] : List (Option Value)).toArray⟩
noncomputable def ob36 : Obj := ⟨(.type "tuple"), none, (.seq ([] : List Value).toArray 0), ([] : List (Option Value)).toArray⟩
noncomputable def ob37 : Obj := ⟨.none, none, (.fields ([] : List Value).toArray), ([] : List (Option Value)).toArray⟩
noncomputable def ob38 : Obj := ⟨(.type "tuple"), none, (.seq ([(.str (Str.ofString "a") 236), (.str (Str.ofString "b") 237)] : List Value).toArray 0), ([] : List (Option Value)).toArray⟩
noncomputable def ob39 : Obj := ⟨(.type "tuple"), none, (.seq ([] : List Value).toArray 0), ([] : List (Option Value)).toArray⟩
noncomputable def ob40 : Obj := ⟨.none, none, (.func { name := (Str.ofString "add"), qualname := (Str.ofString "add"), params := fA 8, body := .stmts (fB 8), scope := fS 8, globals := 0, closure := [], defaults := .none, kwdefaults := .none, doc := .none, pyModule := .none, annotations := none, code := .none, closureTuple := .none, builtins := 0 }), ([] : List (Option Value)).toArray⟩
noncomputable def ob41 : Obj := ⟨(.type "code"), none, (.fields ([(.str (Str.ofString "add") 233), (.str (Str.ofString "add") 234), (.str (Str.ofString "/claim/cut.py") 235), (.int 52 0), (.int 2 0), (.int 0 0), (.int 0 0), (.int 3 0), (.ref 36), (.bool true), (.int 181 0), (.ref 37), .none, (.ref 38), (.ref 39), (.ref 40), (.int 238 0), (.int 52 0), (.str (Str.ofString "/claim/cut.py") 239)] : List Value).toArray), ([] : List (Option Value)).toArray⟩
noncomputable def ob42 : Obj := ⟨(.type "function"), none, (.func { name := (Str.ofString "add"), qualname := (Str.ofString "add"), params := fA 8, body := .stmts (fB 8), scope := fS 8, globals := 3, closure := [], defaults := .none, kwdefaults := .none, doc := .none, pyModule := (.str (Str.ofString "cpy313.operator") 223), annotations := none, code := (.ref 41), closureTuple := .none, builtins := 0 }), ([] : List (Option Value)).toArray⟩
noncomputable def ob43 : Obj := ⟨(.type "tuple"), none, (.seq ([] : List Value).toArray 0), ([] : List (Option Value)).toArray⟩
noncomputable def ob44 : Obj := ⟨.none, none, (.fields ([] : List Value).toArray), ([] : List (Option Value)).toArray⟩
noncomputable def ob45 : Obj := ⟨(.type "tuple"), none, (.seq ([(.str (Str.ofString "a") 244), (.str (Str.ofString "b") 245)] : List Value).toArray 0), ([] : List (Option Value)).toArray⟩
noncomputable def ob46 : Obj := ⟨(.type "tuple"), none, (.seq ([] : List Value).toArray 0), ([] : List (Option Value)).toArray⟩
noncomputable def ob47 : Obj := ⟨.none, none, (.func { name := (Str.ofString "mul"), qualname := (Str.ofString "mul"), params := fA 9, body := .stmts (fB 9), scope := fS 9, globals := 0, closure := [], defaults := .none, kwdefaults := .none, doc := .none, pyModule := .none, annotations := none, code := .none, closureTuple := .none, builtins := 0 }), ([] : List (Option Value)).toArray⟩
noncomputable def ob48 : Obj := ⟨(.type "code"), none, (.fields ([(.str (Str.ofString "mul") 241), (.str (Str.ofString "mul") 242), (.str (Str.ofString "/claim/cut.py") 243), (.int 54 0), (.int 2 0), (.int 0 0), (.int 0 0), (.int 3 0), (.ref 43), (.bool true), (.int 181 0), (.ref 44), .none, (.ref 45), (.ref 46), (.ref 47), (.int 246 0), (.int 54 0), (.str (Str.ofString "/claim/cut.py") 247)] : List Value).toArray), ([] : List (Option Value)).toArray⟩
noncomputable def ob49 : Obj := ⟨(.type "function"), none, (.func { name := (Str.ofString "mul"), qualname := (Str.ofString "mul"), params := fA 9, body := .stmts (fB 9), scope := fS 9, globals := 3, closure := [], defaults := .none, kwdefaults := .none, doc := .none, pyModule := (.str (Str.ofString "cpy313.operator") 223), annotations := none, code := (.ref 48), closureTuple := .none, builtins := 0 }), ([] : List (Option Value)).toArray⟩
noncomputable def ob50 : Obj := ⟨(.type "tuple"), none, (.seq ([] : List Value).toArray 0), ([] : List (Option Value)).toArray⟩
noncomputable def ob51 : Obj := ⟨.none, none, (.fields ([] : List Value).toArray), ([] : List (Option Value)).toArray⟩
noncomputable def ob52 : Obj := ⟨(.type "tuple"), none, (.seq ([(.str (Str.ofString "a") 252), (.str (Str.ofString "b") 253)] : List Value).toArray 0), ([] : List (Option Value)).toArray⟩
noncomputable def ob53 : Obj := ⟨(.type "tuple"), none, (.seq ([] : List Value).toArray 0), ([] : List (Option Value)).toArray⟩
noncomputable def ob54 : Obj := ⟨.none, none, (.func { name := (Str.ofString "sub"), qualname := (Str.ofString "sub"), params := fA 10, body := .stmts (fB 10), scope := fS 10, globals := 0, closure := [], defaults := .none, kwdefaults := .none, doc := .none, pyModule := .none, annotations := none, code := .none, closureTuple := .none, builtins := 0 }), ([] : List (Option Value)).toArray⟩
noncomputable def ob55 : Obj := ⟨(.type "code"), none, (.fields ([(.str (Str.ofString "sub") 249), (.str (Str.ofString "sub") 250), (.str (Str.ofString "/claim/cut.py") 251), (.int 56 0), (.int 2 0), (.int 0 0), (.int 0 0), (.int 3 0), (.ref 50), (.bool true), (.int 181 0), (.ref 51), .none, (.ref 52), (.ref 53), (.ref 54), (.int 254 0), (.int 56 0), (.str (Str.ofString "/claim/cut.py") 255)] : List Value).toArray), ([] : List (Option Value)).toArray⟩
noncomputable def ob56 : Obj := ⟨(.type "function"), none, (.func { name := (Str.ofString "sub"), qualname := (Str.ofString "sub"), params := fA 10, body := .stmts (fB 10), scope := fS 10, globals := 3, closure := [], defaults := .none, kwdefaults := .none, doc := .none, pyModule := (.str (Str.ofString "cpy313.operator") 223), annotations := none, code := (.ref 55), closureTuple := .none, builtins := 0 }), ([] : List (Option Value)).toArray⟩
noncomputable def ob57 : Obj := ⟨(.type "tuple"), none, (.seq ([] : List Value).toArray 0), ([] : List (Option Value)).toArray⟩
noncomputable def ob58 : Obj := ⟨.none, none, (.fields ([] : List Value).toArray), ([] : List (Option Value)).toArray⟩
noncomputable def ob59 : Obj := ⟨(.type "tuple"), none, (.seq ([(.str (Str.ofString "a") 260), (.str (Str.ofString "b") 261), (.str (Str.ofString "msg") 262)] : List Value).toArray 0), ([] : List (Option Value)).toArray⟩
noncomputable def ob60 : Obj := ⟨(.type "tuple"), none, (.seq ([] : List Value).toArray 0), ([] : List (Option Value)).toArray⟩
noncomputable def ob61 : Obj := ⟨.none, none, (.func { name := (Str.ofString "concat"), qualname := (Str.ofString "concat"), params := fA 11, body := .stmts (fB 11), scope := fS 11, globals := 0, closure := [], defaults := .none, kwdefaults := .none, doc := .none, pyModule := .none, annotations := none, code := .none, closureTuple := .none, builtins := 0 }), ([] : List (Option Value)).toArray⟩
noncomputable def ob62 : Obj := ⟨(.type "code"), none, (.fields ([(.str (Str.ofString "concat") 257), (.str (Str.ofString "concat") 258), (.str (Str.ofString "/claim/cut.py") 259), (.int 58 0), (.int 2 0), (.int 0 0), (.int 0 0), (.int 3 0), (.ref 57), (.bool true), (.int 181 0), (.ref 58), .none, (.ref 59), (.ref 60), (.ref 61), (.int 263 0), (.int 58 0), (.str (Str.ofString "/claim/cut.py") 264)] : List Value).toArray), ([] : List (Option Value)).toArray⟩
noncomputable def ob63 : Obj := ⟨(.type "function"), none, (.func { name := (Str.ofString "concat"), qualname := (Str.ofString "concat"), params := fA 11, body := .stmts (fB 11), scope := fS 11, globals := 3, closure := [], defaults := .none, kwdefaults := .none, doc := .none, pyModule := (.str (Str.ofString "cpy313.operator") 223), annotations := none, code := (.ref 62), closureTuple := .none, builtins := 0 }), ([] : List (Option Value)).toArray⟩
noncomputable def ob64 : Obj := ⟨(.type "tuple"), none, (.seq ([] : List Value).toArray 0), ([] : List (Option Value)).toArray⟩
noncomputable def ob65 : Obj := ⟨.none, none, (.fields ([] : List Value).toArray), ([] : List (Option Value)).toArray⟩
noncomputable def ob66 : Obj := ⟨(.type "tuple"), none, (.seq ([(.str (Str.ofString "a") 269), (.str (Str.ofString "b") 270), (.str (Str.ofString "count") 271), (.str (Str.ofString "i") 272)] : List Value).toArray 0), ([] : List (Option Value)).toArray⟩
noncomputable def ob67 : Obj := ⟨(.type "tuple"), none, (.seq ([] : List Value).toArray 0), ([] : List (Option Value)).toArray⟩
noncomputable def ob68 : Obj := ⟨.none, none, (.func { name := (Str.ofString "countOf"), qualname := (Str.ofString "countOf"), params := fA 12, body := .stmts (fB 12), scope := fS 12, globals := 0, closure := [], defaults := .none, kwdefaults := .none, doc := .none, pyModule := .none, annotations := none, code := .none, closureTuple := .none, builtins := 0 }), ([] : List (Option Value)).toArray⟩
noncomputable def ob69 : Obj := ⟨(.type "code"), none, (.fields ([(.str (Str.ofString "countOf") 266), (.str (Str.ofString "countOf") 267), (.str (Str.ofString "/claim/cut.py") 268), (.int 63 0), (.int 2 0), (.int 0 0), (.int 0 0), (.int 3 0), (.ref 64), (.bool true), (.int 181 0), (.ref 65), .none, (.ref 66), (.ref 67), (.ref 68), (.int 273 0), (.int 63 0), (.str (Str.ofString "/claim/cut.py") 274)] : List Value).toArray), ([] : List (Option Value)).toArray⟩
noncomputable def ob70 : Obj := ⟨(.type "function"), none, (.func { name := (Str.ofString "countOf"), qualname := (Str.ofString "countOf"), params := fA 12, body := .stmts (fB 12), scope := fS 12, globals := 3, closure := [], defaults := .none, kwdefaults := .none, doc := .none, pyModule := (.str (Str.ofString "cpy313.operator") 223), annotations := none, code := (.ref 69), closureTuple := .none, builtins := 0 }), ([] : List (Option Value)).toArray⟩
noncomputable def ob71 : Obj := ⟨(.type "list"), none, (.seq ([(.int 173 278), (.int 847 279), (.int 6150 280), (.int 6155 281), (.int 6156 282), (.int 6157 283), (.int 8203 284), (.int 8204 285), (.int 8205 286), (.int 8288 287), (.int 65279 288)] : List Value).toArray 0), ([] : List (Option Value)).toArray⟩
noncomputable def ob72 : Obj := ⟨(.type "range"), none, (.fields ([(.int 65024 289), (.int 65040 290), (.int 1 291)] : List Value).toArray), ([] : List (Option Value)).toArray⟩
noncomputable def ob73 : Obj := ⟨(.type "list"), none, (.seq ([(.int 65024 294), (.int 65025 295), (.int 65026 296), (.int 65027 297), (.int 65028 298), (.int 65029 299), (.int 65030 300), (.int 65031 301), (.int 65032 302), (.int 65033 303), (.int 65034 304), (.int 65035 305), (.int 65036 306), (.int 65037 307), (.int 65038 308), (.int 65039 309)] : List Value).toArray 18), ([] : List (Option Value)).toArray⟩
noncomputable def ob74 : Obj := ⟨(.type "range_iterator"), none, (.fields ([(.int 65040 0), (.int 0 0), (.int 1 0)] : List Value).toArray), ([] : List (Option Value)).toArray⟩
noncomputable def ob75 : Obj := ⟨(.type "tuple"), none, (.seq ([] : List Value).toArray 0), ([] : List (Option Value)).toArray⟩
noncomputable def ob76 : Obj := ⟨(.type "StopIteration"), none, (.fields ([(.ref 75), .none, .none, .none, (.bool false), .none] : List Value).toArray), ([] : List (Option Value)).toArray⟩
noncomputable def ob77 : Obj := ⟨(.type "list"), none, (.seq ([(.int 173 278), (.int 847 279), (.int 6150 280), (.int 6155 281), (.int 6156 282), (.int 6157 283), (.int 8203 284), (.int 8204 285), (.int 8205 286), (.int 8288 287), (.int 65279 288), (.int 65024 294), (.int 65025 295), (.int 65026 296), (.int 65027 297), (.int 65028 298), (.int 65029 299), (.int 65030 300), (.int 65031 301), (.int 65032 302), (.int 65033 303), (.int 65034 304), (.int 65035 305), (.int 65036 306), (.int 65037 307), (.int 65038 308), (.int 65039 309)] : List Value).toArray 0), ([] : List (Option Value)).toArray⟩
noncomputable def ob79 : Obj := ⟨(.type "list_iterator"), none, (.fields ([.none, (.int 27 0)] : List Value).toArray), ([] : List (Option Value)).toArray⟩
noncomputable def ob80 : Obj := ⟨(.type "tuple"), none, (.seq ([] : List Value).toArray 0), ([] : List (Option Value)).toArray⟩
noncomputable def ob81 : Obj := ⟨(.type "StopIteration"), none, (.fields ([(.ref 80), .none, .none, .none, (.bool false), .none] : List Value).toArray), ([] : List (Option Value)).toArray⟩
noncomputable def ob82 : Obj := ⟨(.type "tuple"), none, (.seq ([] : List Value).toArray 0), ([] : List (Option Value)).toArray⟩
noncomputable def ob83 : Obj := ⟨.none, none, (.fields ([] : List Value).toArray), ([] : List (Option Value)).toArray⟩
noncomputable def ob84 : Obj := ⟨(.type "tuple"), none, (.seq ([(.str (Str.ofString "code") 341)] : List Value).toArray 0), ([] : List (Option Value)).toArray⟩
noncomputable def ob85 : Obj := ⟨(.type "tuple"), none, (.seq ([] : List Value).toArray 0), ([] : List (Option Value)).toArray⟩
noncomputable def ob86 : Obj := ⟨.none, none, (.func { name := (Str.ofString "in_table_b1"), qualname := (Str.ofString "in_table_b1"), params := fA 15, body := .stmts (fB 15), scope := fS 15, globals := 0, closure := [], defaults := .none, kwdefaults := .none, doc := .none, pyModule := .none, annotations := none, code := .none, closureTuple := .none, builtins := 0 }), ([] : List (Option Value)).toArray⟩
noncomputable def ob87 : Obj := ⟨(.type "code"), none, (.fields ([(.str (Str.ofString "in_table_b1") 338), (.str (Str.ofString "in_table_b1") 339), (.str (Str.ofString "/claim/cut.py") 340), (.int 71 0), (.int 1 0), (.int 0 0), (.int 0 0), (.int 3 0), (.ref 82), (.bool true), (.int 181 0), (.ref 83), .none, (.ref 84), (.ref 85), (.ref 86), (.int 342 0), (.int 71 0), (.str (Str.ofString "/claim/cut.py") 343)] : List Value).toArray), ([] : List (Option Value)).toArray⟩
noncomputable def ob88 : Obj := ⟨(.type "function"), none, (.func { name := (Str.ofString "in_table_b1"), qualname := (Str.ofString "in_table_b1"), params := fA 15, body := .stmts (fB 15), scope := fS 15, globals := 3, closure := [], defaults := .none, kwdefaults := .none, doc := .none, pyModule := (.str (Str.ofString "cpy313.stringprep") 276), annotations := none, code := (.ref 87), closureTuple := .none, builtins := 0 }), ([] : List (Option Value)).toArray⟩
noncomputable def ob128 : Obj := ⟨(.type "tuple"), none, (.seq ([] : List Value).toArray 0), ([] : List (Option Value)).toArray⟩
noncomputable def ob129 : Obj := ⟨.none, none, (.fields ([] : List Value).toArray), ([] : List (Option Value)).toArray⟩
noncomputable def ob130 : Obj := ⟨(.type "tuple"), none, (.seq ([(.str (Str.ofString "code") 2299), (.str (Str.ofString "r") 2300)] : List Value).toArray 0), ([] : List (Option Value)).toArray⟩
noncomputable def ob131 : Obj := ⟨(.type "tuple"), none, (.seq ([] : List Value).toArray 0), ([] : List (Option Value)).toArray⟩
noncomputable def ob132 : Obj := ⟨.none, none, (.func { name := (Str.ofString "map_table_b3"), qualname := (Str.ofString "map_table_b3"), params := fA 17, body := .stmts (fB 17), scope := fS 17, globals := 0, closure := [], defaults := .none, kwdefaults := .none, doc := .none, pyModule := .none, annotations := none, code := .none, closureTuple := .none, builtins := 0 }), ([] : List (Option Value)).toArray⟩
noncomputable def ob133 : Obj := ⟨(.type "code"), none, (.fields ([(.str (Str.ofString "map_table_b3") 2296), (.str (Str.ofString "map_table_b3") 2297), (.str (Str.ofString "/claim/cut.py") 2298), (.int 74 0), (.int 1 0), (.int 0 0), (.int 0 0), (.int 3 0), (.ref 128), (.bool true), (.int 181 0), (.ref 129), .none, (.ref 130), (.ref 131), (.ref 132), (.int 2301 0), (.int 74 0), (.str (Str.ofString "/claim/cut.py") 2302)] : List Value).toArray), ([] : List (Option Value)).toArray⟩
noncomputable def ob134 : Obj := ⟨(.type "function"), none, (.func { name := (Str.ofString "map_table_b3"), qualname := (Str.ofString "map_table_b3"), params := fA 17, body := .stmts (fB 17), scope := fS 17, globals := 3, closure := [], defaults := .none, kwdefaults := .none, doc := .none, pyModule := (.str (Str.ofString "cpy313.stringprep") 276), annotations := none, code := (.ref 133), closureTuple := .none, builtins := 0 }), ([] : List (Option Value)).toArray⟩
noncomputable def ob135 : Obj := ⟨(.type "tuple"), none, (.seq ([] : List Value).toArray 0), ([] : List (Option Value)).toArray⟩
noncomputable def ob136 : Obj := ⟨.none, none, (.fields ([] : List Value).toArray), ([] : List (Option Value)).toArray⟩
noncomputable def ob137 : Obj := ⟨(.type "tuple"), none, (.seq ([(.str (Str.ofString "script") 2309), (.str (Str.ofString "draws") 2310), (.str (Str.ofString "k") 2311)] : List Value).toArray 0), ([] : List (Option Value)).toArray⟩
noncomputable def ob138 : Obj := ⟨(.type "tuple"), none, (.seq ([] : List Value).toArray 0), ([] : List (Option Value)).toArray⟩
noncomputable def ob139 : Obj := ⟨.none, none, (.func { name := (Str.ofString "_law_draws"), qualname := (Str.ofString "_law_draws"), params := fA 19, body := .stmts (fB 19), scope := fS 19, globals := 0, closure := [], defaults := .none, kwdefaults := .none, doc := .none, pyModule := .none, annotations := none, code := .none, closureTuple := .none, builtins := 0 }), ([] : List (Option Value)).toArray⟩
noncomputable def ob140 : Obj := ⟨(.type "code"), none, (.fields ([(.str (Str.ofString "_law_draws") 2306), (.str (Str.ofString "_law_draws") 2307), (.str (Str.ofString "/claim/cut.py") 2308), (.int 80 0), (.int 1 0), (.int 0 0), (.int 0 0), (.int 3 0), (.ref 135), (.bool true), (.int 181 0), (.ref 136), .none, (.ref 137), (.ref 138), (.ref 139), (.int 2312 0), (.int 80 0), (.str (Str.ofString "/claim/cut.py") 2313)] : List Value).toArray), ([] : List (Option Value)).toArray⟩
noncomputable def ob141 : Obj := ⟨(.type "function"), none, (.func { name := (Str.ofString "_law_draws"), qualname := (Str.ofString "_law_draws"), params := fA 19, body := .stmts (fB 19), scope := fS 19, globals := 3, closure := [], defaults := .none, kwdefaults := .none, doc := .none, pyModule := (.str (Str.ofString "law_tl0036_01") 2304), annotations := none, code := (.ref 140), closureTuple := .none, builtins := 0 }), ([] : List (Option Value)).toArray⟩
noncomputable def ob142 : Obj := ⟨(.type "tuple"), none, (.seq ([] : List Value).toArray 0), ([] : List (Option Value)).toArray⟩
noncomputable def ob143 : Obj := ⟨.none, none, (.fields ([] : List Value).toArray), ([] : List (Option Value)).toArray⟩
noncomputable def ob144 : Obj := ⟨(.type "tuple"), none, (.seq ([(.str (Str.ofString "k") 2318)] : List Value).toArray 0), ([] : List (Option Value)).toArray⟩
noncomputable def ob145 : Obj := ⟨(.type "tuple"), none, (.seq ([] : List Value).toArray 0), ([] : List (Option Value)).toArray⟩
noncomputable def ob146 : Obj := ⟨.none, none, (.func { name := (Str.ofString "_law_unseen"), qualname := (Str.ofString "_law_unseen"), params := fA 20, body := .stmts (fB 20), scope := fS 20, globals := 0, closure := [], defaults := .none, kwdefaults := .none, doc := .none, pyModule := .none, annotations := none, code := .none, closureTuple := .none, builtins := 0 }), ([] : List (Option Value)).toArray⟩
noncomputable def ob147 : Obj := ⟨(.type "code"), none, (.fields ([(.str (Str.ofString "_law_unseen") 2315), (.str (Str.ofString "_law_unseen") 2316), (.str (Str.ofString "/claim/cut.py") 2317), (.int 85 0), (.int 1 0), (.int 0 0), (.int 0 0), (.int 3 0), (.ref 142), (.bool true), (.int 181 0), (.ref 143), .none, (.ref 144), (.ref 145), (.ref 146), (.int 2319 0), (.int 85 0), (.str (Str.ofString "/claim/cut.py") 2320)] : List Value).toArray), ([] : List (Option Value)).toArray⟩
noncomputable def ob148 : Obj := ⟨(.type "function"), none, (.func { name := (Str.ofString "_law_unseen"), qualname := (Str.ofString "_law_unseen"), params := fA 20, body := .stmts (fB 20), scope := fS 20, globals := 3, closure := [], defaults := .none, kwdefaults := .none, doc := .none, pyModule := (.str (Str.ofString "law_tl0036_01") 2304), annotations := none, code := (.ref 147), closureTuple := .none, builtins := 0 }), ([] : List (Option Value)).toArray⟩
noncomputable def ob149 : Obj := ⟨(.type "tuple"), none, (.seq ([] : List Value).toArray 0), ([] : List (Option Value)).toArray⟩
noncomputable def ob150 : Obj := ⟨.none, none, (.fields ([] : List Value).toArray), ([] : List (Option Value)).toArray⟩
noncomputable def ob151 : Obj := ⟨(.type "tuple"), none, (.seq ([(.str (Str.ofString "letter") 2325), (.str (Str.ofString "k") 2326)] : List Value).toArray 0), ([] : List (Option Value)).toArray⟩
noncomputable def ob152 : Obj := ⟨(.type "tuple"), none, (.seq ([] : List Value).toArray 0), ([] : List (Option Value)).toArray⟩
noncomputable def ob153 : Obj := ⟨.none, none, (.func { name := (Str.ofString "_law_form"), qualname := (Str.ofString "_law_form"), params := fA 21, body := .stmts (fB 21), scope := fS 21, globals := 0, closure := [], defaults := .none, kwdefaults := .none, doc := .none, pyModule := .none, annotations := none, code := .none, closureTuple := .none, builtins := 0 }), ([] : List (Option Value)).toArray⟩
noncomputable def ob154 : Obj := ⟨(.type "code"), none, (.fields ([(.str (Str.ofString "_law_form") 2322), (.str (Str.ofString "_law_form") 2323), (.str (Str.ofString "/claim/cut.py") 2324), (.int 89 0), (.int 2 0), (.int 0 0), (.int 0 0), (.int 3 0), (.ref 149), (.bool true), (.int 181 0), (.ref 150), .none, (.ref 151), (.ref 152), (.ref 153), (.int 2327 0), (.int 89 0), (.str (Str.ofString "/claim/cut.py") 2328)] : List Value).toArray), ([] : List (Option Value)).toArray⟩
noncomputable def ob155 : Obj := ⟨(.type "function"), none, (.func { name := (Str.ofString "_law_form"), qualname := (Str.ofString "_law_form"), params := fA 21, body := .stmts (fB 21), scope := fS 21, globals := 3, closure := [], defaults := .none, kwdefaults := .none, doc := .none, pyModule := (.str (Str.ofString "law_tl0036_01") 2304), annotations := none, code := (.ref 154), closureTuple := .none, builtins := 0 }), ([] : List (Option Value)).toArray⟩
noncomputable def ob156 : Obj := ⟨(.type "tuple"), none, (.seq ([] : List Value).toArray 0), ([] : List (Option Value)).toArray⟩
noncomputable def ob157 : Obj := ⟨.none, none, (.fields ([] : List Value).toArray), ([] : List (Option Value)).toArray⟩
noncomputable def ob158 : Obj := ⟨.none, none, (.func { name := (Str.ofString "_law_meant"), qualname := (Str.ofString "_law_meant"), params := fA 22, body := .stmts (fB 22), scope := fS 22, globals := 0, closure := [], defaults := .none, kwdefaults := .none, doc := .none, pyModule := .none, annotations := none, code := .none, closureTuple := .none, builtins := 0 }), ([] : List (Option Value)).toArray⟩
noncomputable def ob159 : Obj := ⟨(.type "code"), none, (.fields ([(.str (Str.ofString "_law_meant") 2330), (.str (Str.ofString "_law_meant") 2331), (.str (Str.ofString "/claim/cut.py") 2332), (.int 95 0), (.int 3 0), (.int 0 0), (.int 0 0), (.int 3 0), (.ref 156), (.bool true), (.int 181 0), (.ref 157), .none, .none, .none, (.ref 158), (.int 2333 0), (.int 95 0), (.str (Str.ofString "/claim/cut.py") 2334)] : List Value).toArray), ([] : List (Option Value)).toArray⟩
noncomputable def ob160 : Obj := ⟨(.type "function"), none, (.func { name := (Str.ofString "_law_meant"), qualname := (Str.ofString "_law_meant"), params := fA 22, body := .stmts (fB 22), scope := fS 22, globals := 3, closure := [], defaults := .none, kwdefaults := .none, doc := .none, pyModule := (.str (Str.ofString "law_tl0036_01") 2304), annotations := none, code := (.ref 159), closureTuple := .none, builtins := 0 }), ([] : List (Option Value)).toArray⟩
noncomputable def ob161 : Obj := ⟨(.type "tuple"), none, (.seq ([] : List Value).toArray 0), ([] : List (Option Value)).toArray⟩
noncomputable def ob162 : Obj := ⟨.none, none, (.fields ([] : List Value).toArray), ([] : List (Option Value)).toArray⟩
noncomputable def ob163 : Obj := ⟨.none, none, (.func { name := (Str.ofString "_law_typed"), qualname := (Str.ofString "_law_typed"), params := fA 23, body := .stmts (fB 23), scope := fS 23, globals := 0, closure := [], defaults := .none, kwdefaults := .none, doc := .none, pyModule := .none, annotations := none, code := .none, closureTuple := .none, builtins := 0 }), ([] : List (Option Value)).toArray⟩
noncomputable def ob164 : Obj := ⟨(.type "code"), none, (.fields ([(.str (Str.ofString "_law_typed") 2336), (.str (Str.ofString "_law_typed") 2337), (.str (Str.ofString "/claim/cut.py") 2338), (.int 97 0), (.int 2 0), (.int 0 0), (.int 0 0), (.int 3 0), (.ref 161), (.bool true), (.int 181 0), (.ref 162), .none, .none, .none, (.ref 163), (.int 2339 0), (.int 97 0), (.str (Str.ofString "/claim/cut.py") 2340)] : List Value).toArray), ([] : List (Option Value)).toArray⟩
noncomputable def ob165 : Obj := ⟨(.type "function"), none, (.func { name := (Str.ofString "_law_typed"), qualname := (Str.ofString "_law_typed"), params := fA 23, body := .stmts (fB 23), scope := fS 23, globals := 3, closure := [], defaults := .none, kwdefaults := .none, doc := .none, pyModule := (.str (Str.ofString "law_tl0036_01") 2304), annotations := none, code := (.ref 164), closureTuple := .none, builtins := 0 }), ([] : List (Option Value)).toArray⟩
noncomputable def ob166 : Obj := ⟨(.type "tuple"), none, (.seq ([] : List Value).toArray 0), ([] : List (Option Value)).toArray⟩
noncomputable def ob167 : Obj := ⟨.none, none, (.fields ([] : List Value).toArray), ([] : List (Option Value)).toArray⟩
noncomputable def ob168 : Obj := ⟨(.type "tuple"), none, (.seq ([(.str (Str.ofString "text") 2345), (.str (Str.ofString "signs") 2346), (.str (Str.ofString "sign") 2347), (.str (Str.ofString "held") 2348)] : List Value).toArray 0), ([] : List (Option Value)).toArray⟩
noncomputable def ob169 : Obj := ⟨(.type "tuple"), none, (.seq ([] : List Value).toArray 0), ([] : List (Option Value)).toArray⟩
noncomputable def ob170 : Obj := ⟨.none, none, (.func { name := (Str.ofString "_law_prepared"), qualname := (Str.ofString "_law_prepared"), params := fA 24, body := .stmts (fB 24), scope := fS 24, globals := 0, closure := [], defaults := .none, kwdefaults := .none, doc := .none, pyModule := .none, annotations := none, code := .none, closureTuple := .none, builtins := 0 }), ([] : List (Option Value)).toArray⟩
noncomputable def ob171 : Obj := ⟨(.type "code"), none, (.fields ([(.str (Str.ofString "_law_prepared") 2342), (.str (Str.ofString "_law_prepared") 2343), (.str (Str.ofString "/claim/cut.py") 2344), (.int 105 0), (.int 1 0), (.int 0 0), (.int 0 0), (.int 3 0), (.ref 166), (.bool true), (.int 181 0), (.ref 167), .none, (.ref 168), (.ref 169), (.ref 170), (.int 2349 0), (.int 105 0), (.str (Str.ofString "/claim/cut.py") 2350)] : List Value).toArray), ([] : List (Option Value)).toArray⟩
noncomputable def ob172 : Obj := ⟨(.type "function"), none, (.func { name := (Str.ofString "_law_prepared"), qualname := (Str.ofString "_law_prepared"), params := fA 24, body := .stmts (fB 24), scope := fS 24, globals := 3, closure := [], defaults := .none, kwdefaults := .none, doc := .none, pyModule := (.str (Str.ofString "law_tl0036_01") 2304), annotations := none, code := (.ref 171), closureTuple := .none, builtins := 0 }), ([] : List (Option Value)).toArray⟩
noncomputable def ob173 : Obj := ⟨(.type "tuple"), none, (.seq ([] : List Value).toArray 0), ([] : List (Option Value)).toArray⟩
noncomputable def ob174 : Obj := ⟨.none, none, (.fields ([] : List Value).toArray), ([] : List (Option Value)).toArray⟩
noncomputable def ob175 : Obj := ⟨(.type "tuple"), none, (.seq ([(.str (Str.ofString "step") 2355)] : List Value).toArray 0), ([] : List (Option Value)).toArray⟩
noncomputable def ob176 : Obj := ⟨(.type "tuple"), none, (.seq ([] : List Value).toArray 0), ([] : List (Option Value)).toArray⟩
noncomputable def ob177 : Obj := ⟨.none, none, (.func { name := (Str.ofString "_law_above"), qualname := (Str.ofString "_law_above"), params := fA 25, body := .stmts (fB 25), scope := fS 25, globals := 0, closure := [], defaults := .none, kwdefaults := .none, doc := .none, pyModule := .none, annotations := none, code := .none, closureTuple := .none, builtins := 0 }), ([] : List (Option Value)).toArray⟩
noncomputable def ob178 : Obj := ⟨(.type "code"), none, (.fields ([(.str (Str.ofString "_law_above") 2352), (.str (Str.ofString "_law_above") 2353), (.str (Str.ofString "/claim/cut.py") 2354), (.int 114 0), (.int 1 0), (.int 0 0), (.int 0 0), (.int 3 0), (.ref 173), (.bool true), (.int 181 0), (.ref 174), .none, (.ref 175), (.ref 176), (.ref 177), (.int 2356 0), (.int 114 0), (.str (Str.ofString "/claim/cut.py") 2357)] : List Value).toArray), ([] : List (Option Value)).toArray⟩
noncomputable def ob179 : Obj := ⟨(.type "function"), none, (.func { name := (Str.ofString "_law_above"), qualname := (Str.ofString "_law_above"), params := fA 25, body := .stmts (fB 25), scope := fS 25, globals := 3, closure := [], defaults := .none, kwdefaults := .none, doc := .none, pyModule := (.str (Str.ofString "law_tl0036_01") 2304), annotations := none, code := (.ref 178), closureTuple := .none, builtins := 0 }), ([] : List (Option Value)).toArray⟩
noncomputable def ob180 : Obj := ⟨(.type "tuple"), none, (.seq ([] : List Value).toArray 0), ([] : List (Option Value)).toArray⟩
noncomputable def ob181 : Obj := ⟨.none, none, (.fields ([] : List Value).toArray), ([] : List (Option Value)).toArray⟩
noncomputable def ob182 : Obj := ⟨.none, none, (.func { name := (Str.ofString "law"), qualname := (Str.ofString "law"), params := fA 26, body := .stmts (fB 26), scope := fS 26, globals := 0, closure := [], defaults := .none, kwdefaults := .none, doc := .none, pyModule := .none, annotations := none, code := .none, closureTuple := .none, builtins := 0 }), ([] : List (Option Value)).toArray⟩
noncomputable def ob183 : Obj := ⟨(.type "code"), none, (.fields ([(.str (Str.ofString "law") 2359), (.str (Str.ofString "law") 2360), (.str (Str.ofString "/claim/cut.py") 2361), (.int 116 0), (.int 1 0), (.int 0 0), (.int 0 0), (.int 3 0), (.ref 180), (.bool true), (.int 181 0), (.ref 181), .none, .none, .none, (.ref 182), (.int 2362 0), (.int 116 0), (.str (Str.ofString "/claim/cut.py") 2363)] : List Value).toArray), ([] : List (Option Value)).toArray⟩
noncomputable def ob184 : Obj := ⟨(.type "function"), none, (.func { name := (Str.ofString "law"), qualname := (Str.ofString "law"), params := fA 26, body := .stmts (fB 26), scope := fS 26, globals := 3, closure := [], defaults := .none, kwdefaults := .none, doc := .none, pyModule := (.str (Str.ofString "law_tl0036_01") 2304), annotations := none, code := (.ref 183), closureTuple := .none, builtins := 0 }), ([] : List (Option Value)).toArray⟩
noncomputable def cstL : List Value := [(.int 5 0), (.int 0 0), (.ref 20), (.int 11 0), (.int 0 0), (.ref 27), (.int 50 0), (.int 0 0), (.ref 34), (.int 52 0), (.int 0 0), (.ref 41), (.int 54 0), (.int 0 0), (.ref 48), (.int 56 0), (.int 0 0), (.ref 55), (.int 58 0), (.int 0 0), (.ref 62), (.int 63 0), (.int 0 0), (.ref 69), (.int 71 0), (.int 0 0), (.ref 87), (.int 74 0), (.int 0 0), (.ref 133), (.int 80 0), (.int 0 0), (.ref 140), (.int 85 0), (.int 0 0), (.ref 147), (.int 89 0), (.int 0 0), (.ref 154), (.int 95 0), (.int 0 0), (.ref 159), (.int 97 0), (.int 0 0), (.ref 164), (.int 105 0), (.int 0 0), (.ref 171), (.int 114 0), (.int 0 0), (.ref 178), (.int 116 0), (.int 0 0), (.ref 183)]
noncomputable def cstO (k : Nat) : Obj := ⟨.none, none, .fields (cstL.take k).toArray, #[]⟩
noncomputable def mainL (P : Params) (nv : Value) : List DictEntry := [
  ⟨PyData.keyHash P (Str.ofString "__name__"), (.str (Str.ofString "__name__") 165), nv⟩,
  ⟨PyData.keyHash P (Str.ofString "__doc__"), (.str (Str.ofString "__doc__") 166), .none⟩,
  ⟨PyData.keyHash P (Str.ofString "__package__"), (.str (Str.ofString "__package__") 167), .none⟩,
  ⟨PyData.keyHash P (Str.ofString "__loader__"), (.str (Str.ofString "__loader__") 168), (.builtin "__main__.__loader__#opaque")⟩,
  ⟨PyData.keyHash P (Str.ofString "__spec__"), (.str (Str.ofString "__spec__") 169), .none⟩,
  ⟨PyData.keyHash P (Str.ofString "__annotations__"), (.str (Str.ofString "__annotations__") 170), (.ref 6)⟩,
  ⟨PyData.keyHash P (Str.ofString "__builtins__"), (.str (Str.ofString "__builtins__") 171), (.ref 4)⟩,
  ⟨PyData.keyHash P (Str.ofString "__file__"), (.str (Str.ofString "__file__") 173), (.str (Str.ofString "/claim/cut.py") 172)⟩,
  ⟨PyData.keyHash P (Str.ofString "__cached__"), (.str (Str.ofString "__cached__") 174), .none⟩,
  ⟨PyData.keyHash P (Str.ofString "_MAX_STRING_SIZE"), (.str (Str.ofString "_MAX_STRING_SIZE") 190), (.int 40 189)⟩,
  ⟨PyData.keyHash P (Str.ofString "_MOVE_COST"), (.str (Str.ofString "_MOVE_COST") 192), (.int 2 191)⟩,
  ⟨PyData.keyHash P (Str.ofString "_CASE_COST"), (.str (Str.ofString "_CASE_COST") 194), (.int 1 193)⟩,
  ⟨PyData.keyHash P (Str.ofString "_substitution_cost"), (.str (Str.ofString "_substitution_cost") 202), (.ref 21)⟩,
  ⟨PyData.keyHash P (Str.ofString "_levenshtein_distance"), (.str (Str.ofString "_levenshtein_distance") 222), (.ref 28)⟩,
  ⟨PyData.keyHash P (Str.ofString "gt"), (.str (Str.ofString "gt") 232), (.ref 35)⟩,
  ⟨PyData.keyHash P (Str.ofString "add"), (.str (Str.ofString "add") 240), (.ref 42)⟩,
  ⟨PyData.keyHash P (Str.ofString "mul"), (.str (Str.ofString "mul") 248), (.ref 49)⟩,
  ⟨PyData.keyHash P (Str.ofString "sub"), (.str (Str.ofString "sub") 256), (.ref 56)⟩,
  ⟨PyData.keyHash P (Str.ofString "concat"), (.str (Str.ofString "concat") 265), (.ref 63)⟩,
  ⟨PyData.keyHash P (Str.ofString "countOf"), (.str (Str.ofString "countOf") 275), (.ref 70)⟩,
  ⟨PyData.keyHash P (Str.ofString "b1_set"), (.str (Str.ofString "b1_set") 337), (.ref 78)⟩,
  ⟨PyData.keyHash P (Str.ofString "in_table_b1"), (.str (Str.ofString "in_table_b1") 344), (.ref 88)⟩,
  ⟨PyData.keyHash P (Str.ofString "b3_exceptions"), (.str (Str.ofString "b3_exceptions") 2295), (.ref 89)⟩,
  ⟨PyData.keyHash P (Str.ofString "map_table_b3"), (.str (Str.ofString "map_table_b3") 2303), (.ref 134)⟩,
  ⟨PyData.keyHash P (Str.ofString "_law_draws"), (.str (Str.ofString "_law_draws") 2314), (.ref 141)⟩,
  ⟨PyData.keyHash P (Str.ofString "_law_unseen"), (.str (Str.ofString "_law_unseen") 2321), (.ref 148)⟩,
  ⟨PyData.keyHash P (Str.ofString "_law_form"), (.str (Str.ofString "_law_form") 2329), (.ref 155)⟩,
  ⟨PyData.keyHash P (Str.ofString "_law_meant"), (.str (Str.ofString "_law_meant") 2335), (.ref 160)⟩,
  ⟨PyData.keyHash P (Str.ofString "_law_typed"), (.str (Str.ofString "_law_typed") 2341), (.ref 165)⟩,
  ⟨PyData.keyHash P (Str.ofString "_law_prepared"), (.str (Str.ofString "_law_prepared") 2351), (.ref 172)⟩,
  ⟨PyData.keyHash P (Str.ofString "_law_above"), (.str (Str.ofString "_law_above") 2358), (.ref 179)⟩,
  ⟨PyData.keyHash P (Str.ofString "law"), (.str (Str.ofString "law") 2364), (.ref 184)⟩]
noncomputable def mainO (P : Params) (nv : Value) (k : Nat) : Obj := ⟨.type "dict", none, .dict ((mainL P nv).take k).toArray k, #[]⟩
noncomputable def restL (P : Params) : List Obj := [ob15, ob16, ob17, ob18, ob19, ob20, ob21, ob22, ob23, ob24, ob25, ob26, ob27, ob28, ob29, ob30, ob31, ob32, ob33, ob34, ob35, ob36, ob37, ob38, ob39, ob40, ob41, ob42, ob43, ob44, ob45, ob46, ob47, ob48, ob49, ob50, ob51, ob52, ob53, ob54, ob55, ob56, ob57, ob58, ob59, ob60, ob61, ob62, ob63, ob64, ob65, ob66, ob67, ob68, ob69, ob70, ob71, ob72, ob73, ob74, ob75, ob76, ob77, setO P, ob79, ob80, ob81, ob82, ob83, ob84, ob85, ob86, ob87, ob88, b3O, subO 1, subO 2, subO 3, subO 4, subO 5, subO 6, subO 7, subO 8, subO 9, subO 10, subO 11, subO 12, subO 13, subO 14, subO 15, subO 16, subO 17, subO 18, subO 19, subO 20, subO 21, subO 22, subO 23, subO 24, subO 25, subO 26, subO 27, subO 28, subO 29, subO 30, subO 31, subO 32, subO 33, subO 34, subO 35, subO 36, subO 37, subO 38, ob128, ob129, ob130, ob131, ob132, ob133, ob134, ob135, ob136, ob137, ob138, ob139, ob140, ob141, ob142, ob143, ob144, ob145, ob146, ob147, ob148, ob149, ob150, ob151, ob152, ob153, ob154, ob155, ob156, ob157, ob158, ob159, ob160, ob161, ob162, ob163, ob164, ob165, ob166, ob167, ob168, ob169, ob170, ob171, ob172, ob173, ob174, ob175, ob176, ob177, ob178, ob179, ob180, ob181, ob182, ob183, ob184]
noncomputable def headL (P : Params) (nv : Value) (k m : Nat) : List Obj := [boot_o_0 P, boot_o_1 P, boot_o_2 P, mainO P nv k, boot_o_4 P, boot_o_5 P, boot_o_6 P, boot_o_7 P, boot_o_8 P, boot_o_9 P, boot_o_10 P, ob11, cstO m, ob13, ob14]
noncomputable def mkT : Nat → List Obj → Nat → Nat → BT
  | 0, _, _, _ => .nil
  | f + 1, l, a, b => match l[b]? with
    | none => .nil
    | some o => .node o (mkT f l (2 * a) (a + b)) (mkT f l (2 * a) (2 * a + b))
noncomputable def life0 : Life := PySem.Life.mk [] [] [] 0 [] [] false #[] [] 0 false false false 0 [2000, 10, 10] false 0 true [] [] 0 false
noncomputable def drawn0 : Drawn := ⟨0, 0, 0, 0⟩
/-- the state: the name's value, the main names, the code's constants, the size, the tokens -/
noncomputable def ST (nv : Value) (k m n t : Nat) (P : Params) (os : OsState) : SharedT := ⟨mkT 9 ((headL P nv k m ++ restL P).take n) 1 0, n, life0, Array.mk [], drawn0, t, os⟩
noncomputable def env0 : Env := { scope := P0.main.scope, locals := mainNs, globals := mainNs, cells := [], code := .ref 13, frame := some 14 }
noncomputable def body0 : List Stmt := P0.main.body
noncomputable def c0 : Code := .body body0 env0
noncomputable def q0 : Pos := ⟨0, 0, 0, 0⟩
noncomputable def ann0 : Option Value := some (.ref 6)

noncomputable def s_0 : Params → OsState → SharedT := ST (.str (Str.ofString "cpy313.traceback") 187) 9 0 15 189   -- steps 9
noncomputable def p_0 : Pos := ⟨1, 0, 1, 8⟩
noncomputable def s_1 : Params → OsState → SharedT := ST (.str (Str.ofString "cpy313.traceback") 187) 10 0 15 191   -- steps 9
noncomputable def p_1 : Pos := ⟨2, 0, 2, 16⟩
noncomputable def s_2 : Params → OsState → SharedT := ST (.str (Str.ofString "cpy313.traceback") 187) 11 0 15 193   -- steps 9
noncomputable def p_2 : Pos := ⟨3, 0, 3, 10⟩
noncomputable def s_3 : Params → OsState → SharedT := ST (.str (Str.ofString "cpy313.traceback") 187) 12 0 15 195   -- steps 9
noncomputable def p_3 : Pos := ⟨4, 0, 4, 10⟩
noncomputable def s_4 : Params → OsState → SharedT := ST (.str (Str.ofString "cpy313.traceback") 187) 13 3 22 203   -- steps 30
noncomputable def p_4 : Pos := ⟨5, 0, 10, 21⟩
noncomputable def s_5 : Params → OsState → SharedT := ST (.str (Str.ofString "cpy313.traceback") 187) 14 6 29 223   -- steps 42
noncomputable def p_5 : Pos := ⟨11, 0, 48, 17⟩
noncomputable def s_6 : Params → OsState → SharedT := ST (.str (Str.ofString "cpy313.operator") 223) 14 6 29 225   -- steps 9
noncomputable def p_6 : Pos := ⟨49, 0, 49, 8⟩
noncomputable def s_7 : Params → OsState → SharedT := ST (.str (Str.ofString "cpy313.operator") 223) 15 9 36 233   -- steps 30
noncomputable def p_7 : Pos := ⟨50, 0, 51, 16⟩
noncomputable def s_8 : Params → OsState → SharedT := ST (.str (Str.ofString "cpy313.operator") 223) 16 12 43 241   -- steps 30
noncomputable def p_8 : Pos := ⟨52, 0, 53, 16⟩
noncomputable def s_9 : Params → OsState → SharedT := ST (.str (Str.ofString "cpy313.operator") 223) 17 15 50 249   -- steps 30
noncomputable def p_9 : Pos := ⟨54, 0, 55, 16⟩
noncomputable def s_10 : Params → OsState → SharedT := ST (.str (Str.ofString "cpy313.operator") 223) 18 18 57 257   -- steps 30
noncomputable def p_10 : Pos := ⟨56, 0, 57, 16⟩
noncomputable def s_11 : Params → OsState → SharedT := ST (.str (Str.ofString "cpy313.operator") 223) 19 21 64 266   -- steps 31
noncomputable def p_11 : Pos := ⟨58, 0, 62, 16⟩
noncomputable def s_12 : Params → OsState → SharedT := ST (.str (Str.ofString "cpy313.operator") 223) 20 24 71 276   -- steps 32
noncomputable def p_12 : Pos := ⟨63, 0, 68, 16⟩
noncomputable def s_13 : Params → OsState → SharedT := ST (.str (Str.ofString "cpy313.stringprep") 276) 20 24 71 278   -- steps 9
noncomputable def p_13 : Pos := ⟨69, 0, 69, 8⟩
noncomputable def s_14 : Params → OsState → SharedT := ST (.str (Str.ofString "cpy313.stringprep") 276) 21 24 82 338   -- steps 998
noncomputable def p_14 : Pos := ⟨70, 0, 70, 6⟩
noncomputable def s_15 : Params → OsState → SharedT := ST (.str (Str.ofString "cpy313.stringprep") 276) 22 27 89 345   -- steps 29
noncomputable def p_15 : Pos := ⟨71, 0, 72, 30⟩
noncomputable def s_16 : Params → OsState → SharedT := ST (.str (Str.ofString "cpy313.stringprep") 276) 23 27 128 2296   -- steps 12524
noncomputable def p_16 : Pos := ⟨73, 0, 73, 13⟩
noncomputable def s_17 : Params → OsState → SharedT := ST (.str (Str.ofString "cpy313.stringprep") 276) 24 30 135 2304   -- steps 30
noncomputable def p_17 : Pos := ⟨74, 0, 78, 23⟩
noncomputable def s_18 : Params → OsState → SharedT := ST (.str (Str.ofString "law_tl0036_01") 2304) 24 30 135 2306   -- steps 9
noncomputable def p_18 : Pos := ⟨79, 0, 79, 8⟩
noncomputable def s_19 : Params → OsState → SharedT := ST (.str (Str.ofString "law_tl0036_01") 2304) 25 33 142 2315   -- steps 31
noncomputable def p_19 : Pos := ⟨80, 0, 84, 16⟩
noncomputable def s_20 : Params → OsState → SharedT := ST (.str (Str.ofString "law_tl0036_01") 2304) 26 36 149 2322   -- steps 29
noncomputable def p_20 : Pos := ⟨85, 0, 88, 25⟩
noncomputable def s_21 : Params → OsState → SharedT := ST (.str (Str.ofString "law_tl0036_01") 2304) 27 39 156 2330   -- steps 30
noncomputable def p_21 : Pos := ⟨89, 0, 94, 89⟩
noncomputable def s_22 : Params → OsState → SharedT := ST (.str (Str.ofString "law_tl0036_01") 2304) 28 42 161 2336   -- steps 26
noncomputable def p_22 : Pos := ⟨95, 0, 96, 98⟩
noncomputable def s_23 : Params → OsState → SharedT := ST (.str (Str.ofString "law_tl0036_01") 2304) 29 45 166 2342   -- steps 26
noncomputable def p_23 : Pos := ⟨97, 0, 104, 101⟩
noncomputable def s_24 : Params → OsState → SharedT := ST (.str (Str.ofString "law_tl0036_01") 2304) 30 48 173 2352   -- steps 32
noncomputable def p_24 : Pos := ⟨105, 0, 113, 48⟩
noncomputable def s_25 : Params → OsState → SharedT := ST (.str (Str.ofString "law_tl0036_01") 2304) 31 51 180 2359   -- steps 29
noncomputable def p_25 : Pos := ⟨114, 0, 115, 45⟩
noncomputable def s_26 : Params → OsState → SharedT := ST (.str (Str.ofString "law_tl0036_01") 2304) 32 54 185 2365   -- steps 26
noncomputable def p_26 : Pos := ⟨116, 0, 154, 15⟩
noncomputable def s_fin : Params → OsState → SharedT := ST (.str (Str.ofString "law_tl0036_01") 2304) 32 54 185 2365   -- steps 1
noncomputable def p_fin : Pos := ⟨116, 0, 154, 15⟩
noncomputable def s_pre : Params → OsState → SharedT := ST (.str (Str.ofString "__main__") 164) 9 0 15 187   -- steps 12
noncomputable def p_pre : Pos := ⟨0, 0, 0, 0⟩
noncomputable def s_block : Params → OsState → SharedT := ST (.str (Str.ofString "__main__") 164) 9 0 15 187   -- steps 0
noncomputable def p_block : Pos := ⟨0, 0, 0, 0⟩
noncomputable def s_s0 : Params → OsState → SharedT := ST (.str (Str.ofString "__main__") 164) 9 0 11 181   -- steps 0
noncomputable def p_s0 : Pos := ⟨0, 0, 0, 0⟩
noncomputable def s_16a : Params → OsState → SharedT := ST (.str (Str.ofString "cpy313.stringprep") 276) 22 27 128 2295
end
end Mine
end

section
open PySem PySem.W PyProof.Rows
set_option maxRecDepth 100000
set_option maxHeartbeats 0
namespace Mine
theorem open0 : opening P0 = plainProg P0.main.scope.names := by kernel_rfl
theorem behind0 : behindTheImports P0 = body0 := by kernel_rfl
theorem pre_go (w : World) (os : OsState) : topGo treeTable P0 w 11 ann0 12 ⟨boot_heap w.params, Array.mk [], boot_drawn, boot_toks, os⟩ (topStub P0) = some ((s_pre w.params os).abs, ⟨denote treeTable c0, c0, p_pre, [topFrame q0]⟩) := by kernel_rfl
theorem block_go (w : World) (os : OsState) : segRun treeTable P0 w 11 ann0 1 1 (s_pre w.params os).abs (blockOf body0 env0 c0 p_pre [topFrame q0]) = some (.next, (s_block w.params os).abs, c0, p_block) := by kernel_rfl
theorem seg_a (w : World) (os : OsState) : segRunT treeTable P0 w 11 ann0 1 310 (s_block w.params os) (piecesOf (body0.take 14) env0 c0 p_block [topFrame q0]) = some (.next, s_13 w.params os, c0, p_13) := by kernel_rfl
theorem seg_15 (w : World) (os : OsState) : segRunT treeTable P0 w 11 ann0 1 30 (s_14 w.params os) (piecesOf [stA 15] env0 c0 p_14 [topFrame q0]) = some (.next, s_15 w.params os, c0, p_15) := by kernel_rfl
theorem seg_z (w : World) (os : OsState) : segRunT treeTable P0 w 11 ann0 1 269 (s_16 w.params os) (piecesOf (body0.drop 17) env0 c0 p_16 [topFrame q0]) = some (.next, s_26 w.params os, c0, p_26) := by kernel_rfl
theorem fin_go (w : World) (os : OsState) : topRun treeTable P0 w 11 ann0 2 (s_26 w.params os).abs ⟨doneF .next, c0, p_26, [topFrame q0]⟩ = some (s_26 w.params os).abs := by kernel_rfl
end Mine
end

section
open PySem PySem.W PyProof.Rows
set_option maxRecDepth 100000
namespace Mine
noncomputable def lnew : { f : Builtin // f = PySem.Builtin.«list.__new__» } := by
  refine ⟨?f, Eq.symm ?h⟩
  case h =>
    unfold PySem.Builtin.«list.__new__»
    rw [splitQ_eq]
noncomputable def tbQ (id : String) : Option Builtin := if id = "list.__new__" then some lnew.1 else treeTable id
theorem tbQ_eq : tbQ = treeTable := by
  funext id
  unfold tbQ
  split
  · rename_i h
    subst h
    rw [lnew.2]
    kernel_rfl
  · rfl
end Mine
end

section
open PySem PySem.W PyProof.Rows
set_option maxRecDepth 100000
set_option maxHeartbeats 0
namespace Mine
abbrev Goal14 (tb : String → Option Builtin) (w : World) : Prop := ∀ os : OsState, segRunT tb P0 w 11 ann0 1 999 (s_13 w.params os) (piecesOf [stA 14] env0 c0 p_13 [topFrame q0]) = some (.next, s_14 w.params os, c0, p_14)
theorem seg_14f (w : World) : Goal14 tbQ (w.withFollow "special-get-raises" false) := fun os => by kernel_rfl
theorem seg_14t (w : World) : Goal14 tbQ (w.withFollow "special-get-raises" true) := fun os => by kernel_rfl
theorem seg_14 (w : World) : Goal14 treeTable w := by
  rw [← tbQ_eq]
  exact byRow2 "special-get-raises" seg_14f seg_14t w
end Mine
end

section
open PySem PySem.W PyProof.Rows
set_option maxRecDepth 100000
set_option maxHeartbeats 1000000
namespace Mine
noncomputable abbrev B0 : List Frame := [topFrame q0]
noncomputable abbrev goN (w : World) (n : Nat) (s : SharedT) (t : Thread) := segGoT treeTable P0 w 11 ann0 1 n s t
theorem go_add {w : World} : ∀ {n m : Nat} {s s' : SharedT} {t t' : Thread}, goN w n s t = some (s', t') → goN w (n + m) s t = goN w m s' t'
  | 0, m, s, s', t, t', h => by
    have : s = s' ∧ t = t' := by simpa [goN, segGoT] using h
    obtain ⟨rfl, rfl⟩ := this
    rw [Nat.zero_add]
  | n + 1, m, s, s', t, t', h => by
    rw [show n + 1 + m = n + m + 1 by (first | lia | omega)]
    unfold goN segGoT at h
    conv => lhs; unfold goN segGoT
    cases he : endAt 1 t with
    | some f => rw [he] at h; cases h
    | none =>
      rw [he] at h
      dsimp only at h
      cases hk : stepOk 11 ann0 t with
      | false => rw [hk] at h; cases h
      | true =>
        rw [hk] at h
        dsimp only at h
        cases hs : stepT (denote treeTable) P0 w s t with
        | none => rw [hs] at h; cases h
        | some r => rw [hs] at h; exact go_add h
def Ev {α : Type} (w : World) (n : Nat) (x : Sem α) (s : SharedT) (p : Pos) (a : α) (s' : SharedT) (p' : Pos) : Prop :=
  ∀ (K : α → Sem Fin) (H : Value → Sem Fin) (gd : Bool → Bool) (lv : List Value → List Value), goN w n s ⟨x.wrap K H gd lv, c0, p, B0⟩ = some (s', ⟨K a, c0, p', B0⟩)
section
variable {α β : Type} {w : World} {s s' s₁ : SharedT} {p p' p₁ : Pos}
theorem Ev.pure {a : α} : Ev w 0 (Pure.pure a) s p a s p := fun _ _ _ _ => rfl
theorem Ev.bind {n m : Nat} {x : Sem α} {f : α → Sem β} {a : α} {b : β} (h : Ev w n x s p a s₁ p₁) (k : Ev w m (f a) s₁ p₁ b s' p') : Ev w (n + m) (x >>= f) s p b s' p' := fun K H gd lv => by
  rw [Sem.bind_eq_wrap', Sem.wrap_wrap, go_add (h _ _ _ _)]
  exact k K H gd lv
theorem Ev.keep {n : Nat} {x : Sem α} {a : α} (vs : List Value) (h : Ev w n x s p a s' p') : Ev w n (x.keep vs) s p a s' p' := fun K H gd lv => by
  rw [Sem.keep_eq_wrap, Sem.wrap_wrap]
  exact h _ _ _ _
theorem Ev.holding {n : Nat} {x : Sem α} {a : α} {vs : List Value} (h : Ev w n x s p a s' p') : Ev w n (PySem.holding vs x) s p a s' p' := by
  rw [holding_eq_keep]
  exact h.keep _
theorem Ev.onRaise {n : Nat} {x : Sem α} {a : α} {g : Value → Sem Unit} (h : Ev w n x s p a s' p') : Ev w n (x.onRaise g) s p a s' p' := fun K H gd lv => by
  rw [Sem.onRaise_eq_wrap, Sem.wrap_wrap]
  exact h _ _ _ _
theorem Ev.rule {n : Nat} {k : Unit → Sem α} {a : α} {t : String} (h : Ev w n (k ()) s p a s' p') : Ev w (n + 1) (.rule t k) s p a s' p' := fun K H gd lv => h K H gd lv
theorem Ev.at {n : Nat} {k : Unit → Sem α} {a : α} {q : Pos} (h : Ev w n (k ()) s q a s' p') : Ev w (n + 1) (.at q k) s p a s' p' := fun K H gd lv => h K H gd lv
theorem Ev.fresh {n : Nat} {k : Tok → Sem α} {a : α} (h : Ev w n (k s.toks) { s with toks := s.toks + 1 } p a s' p') : Ev w (n + 1) (.fresh k) s p a s' p' := fun K H gd lv => h K H gd lv
theorem Ev.ask {n : Nat} {k : Setting → Sem α} {a : α} (h : Ev w n (k ⟨P0, w.params⟩) s p a s' p') : Ev w (n + 1) (.ask k) s p a s' p' := fun K H gd lv => h K H gd lv
def Has (s : SharedT) (a : Addr) (o : Obj) : Prop := Nat.blt a s.n = true ∧ s.tree.get a = some o ∧ alive o = some o
theorem stT_load {a : Addr} {o : Obj} {q : Option Value} {k : Obj → Sem Fin} {c : Code} {st : List Frame} (g : Has s a o) : stepT (denote treeTable) P0 w s ⟨.load a q k, c, p, st⟩ = some (s, ⟨k o, c, p, st⟩) := by
  obtain ⟨g1, g2, g3⟩ := g
  obtain ⟨T, n, life, gens, drawn, toks, os⟩ := s
  dsimp only at g1 g2
  simp only [stepT, g1, g2, g3]
theorem stT_update {a : Addr} {o : Obj} {q : Option Value} {f : Obj → Obj} {k : Unit → Sem Fin} {c : Code} {st : List Frame} (g : Has s a o) : stepT (denote treeTable) P0 w s ⟨.update a q f k, c, p, st⟩ = some ({ s with tree := s.tree.set a f }, ⟨k (), c, p, st⟩) := by
  obtain ⟨g1, g2, g3⟩ := g
  obtain ⟨T, n, life, gens, drawn, toks, os⟩ := s
  dsimp only at g1 g2
  simp only [stepT, g1, g2, g3]
theorem stT_alloc {o : Obj} {k : Addr → Sem Fin} {c : Code} {st : List Frame} (g : ((s.tree.ins s.n o).get s.n).isSome = true) : stepT (denote treeTable) P0 w s ⟨.alloc o k, c, p, st⟩ = some ({ s with tree := s.tree.ins s.n o, n := s.n + 1 }, ⟨k s.n, c, p, st⟩) := by
  obtain ⟨T, n, life, gens, drawn, toks, os⟩ := s
  dsimp only at g
  simp only [stepT, g]
theorem Ev.load {n : Nat} {k : Obj → Sem α} {b : α} {a : Addr} {o : Obj} {q : Option Value} (g : Has s a o) (h : Ev w n (k o) s p b s' p') : Ev w (n + 1) (.load a q k) s p b s' p' := fun K H gd lv => by
  show (match stepT (denote treeTable) P0 w s ⟨.load a q fun x => (k x).wrap K H gd lv, c0, p, B0⟩ with | some (s', t') => goN w n s' t' | none => none) = _
  rw [stT_load g]
  exact h K H gd lv
theorem Ev.update {n : Nat} {k : Unit → Sem α} {b : α} {a : Addr} {o : Obj} {q : Option Value} {f : Obj → Obj} (g : Has s a o) (l : Nat.ble 11 a = true) (h : Ev w n (k ()) { s with tree := s.tree.set a f } p b s' p') : Ev w (n + 1) (.update a q f k) s p b s' p' := fun K H gd lv => by
  have e : stepOk 11 ann0 ⟨.update a q f fun x => (k x).wrap K H gd lv, c0, p, B0⟩ = true := by
    show (true && (Nat.ble 11 a || a == mainNs || a == cStatics || ann0 == some (.ref a))) = true
    rw [l]; rfl
  show (match stepOk 11 ann0 ⟨.update a q f fun x => (k x).wrap K H gd lv, c0, p, B0⟩ with | false => none | true => (match stepT (denote treeTable) P0 w s ⟨.update a q f fun x => (k x).wrap K H gd lv, c0, p, B0⟩ with | some (s', t') => goN w n s' t' | none => none)) = _
  rw [e, stT_update g]
  exact h K H gd lv
theorem Ev.alloc {n : Nat} {k : Addr → Sem α} {b : α} {o : Obj} (g : ((s.tree.ins s.n o).get s.n).isSome = true) (h : Ev w n (k s.n) { s with tree := s.tree.ins s.n o, n := s.n + 1 } p b s' p') : Ev w (n + 1) (.alloc o k) s p b s' p' := fun K H gd lv => by
  show (match stepT (denote treeTable) P0 w s ⟨.alloc o fun x => (k x).wrap K H gd lv, c0, p, B0⟩ with | some (s', t') => goN w n s' t' | none => none) = _
  rw [stT_alloc g]
  exact h K H gd lv
-- hashes of ints
theorem hash_special (i : Int) (t : Tok) : Ev w 0 (specialOf (.int i t) "__hash__") s p (some (.builtin "int.__hash__")) s p := fun _ _ _ _ => by kernel_rfl
theorem hash_callf (i : Int) (t : Tok) (r : Sem Value) (w : World) : ∀ s p, Ev (w.withFollow "special-get-raises" false) 5 (callSpecialIfBoundUnlessNone? (.int i t) "__hash__" r) s p (some (.int (rawHash i) s.toks)) { s with toks := s.toks + 1 } p := fun _ _ _ _ _ _ => by kernel_rfl
theorem hash_callt (i : Int) (t : Tok) (r : Sem Value) (w : World) : ∀ s p, Ev (w.withFollow "special-get-raises" true) 5 (callSpecialIfBoundUnlessNone? (.int i t) "__hash__" r) s p (some (.int (rawHash i) s.toks)) { s with toks := s.toks + 1 } p := fun _ _ _ _ _ _ => by kernel_rfl
theorem hash_call (i : Int) (t : Tok) (r : Sem Value) : Ev w 5 (callSpecialIfBoundUnlessNone? (.int i t) "__hash__" r) s p (some (.int (rawHash i) s.toks)) { s with toks := s.toks + 1 } p :=
  byRow2 "special-get-raises" (P := fun w => ∀ s p, Ev w 5 (callSpecialIfBoundUnlessNone? (.int i t) "__hash__" r) s p (some (.int (rawHash i) s.toks)) { s with toks := s.toks + 1 } p) (hash_callf i t r) (hash_callt i t r) w s p
theorem ev_hash (i : Int) (t : Tok) : Ev w 5 (pyHash (.int i t)) s p (hashInt i) { s with toks := s.toks + 1 } p := by
  have hr := rawHash_range i
  show Ev w 5 (pyHashByItsType (.int i t)) s p (hashInt i) { s with toks := s.toks + 1 } p
  unfold pyHashByItsType
  refine Ev.bind (n := 0) (m := 5) (x := cRoomFor "hash" [Value.int i t]) (a := ()) (s₁ := s) (p₁ := p) (by rw [cRoomFor, if_neg (by rw [show [Value.int i t].any Value.onHeap = false from rfl]; exact Bool.false_ne_true)]; exact Ev.pure) ?_
  refine Ev.bind (n := 0) (m := 5) (hash_special i t) ?_
  show Ev w 5 (if (some (Value.builtin "int.__hash__") == some Value.none) = true then _ else _) s p _ _ p
  rw [if_neg (by rw [show (some (Value.builtin "int.__hash__") == some Value.none) = false from rfl]; exact Bool.false_ne_true)]
  refine Ev.bind (n := 0) (m := 5) (hash_special i t) ?_
  refine Ev.bind (n := 5) (m := 0) (hash_call i t _) ?_
  show Ev w 0 (if (decide (-(2 : Int) ^ 63 ≤ rawHash i) && decide (rawHash i < 2 ^ 63)) = true then _ else _) _ p _ _ p
  rw [if_pos (by rw [decide_eq_true hr.1, decide_eq_true hr.2]; rfl)]
  exact Ev.pure
end
end Mine
end

section
open PySem PySem.W PyProof.Rows
set_option maxRecDepth 100000
set_option maxHeartbeats 1000000
namespace Mine
noncomputable def dO (es : List DictEntry) (ep : Nat) : Obj := ⟨.type "dict", none, .dict es.toArray ep, #[]⟩
noncomputable def upd (d : Addr) (e : DictEntry) (s : SharedT) : SharedT := { s with tree := s.tree.set d (Obj.mapDictKeys (·.push e)) }
noncomputable def tk (n : Nat) (s : SharedT) : SharedT := { s with toks := s.toks + n }
section
variable {w : World} {s s' s₁ : SharedT} {p p' p₁ : Pos} {d a : Addr} {es : List DictEntry} {ep : Nat}
theorem has_tk {o : Obj} {n : Nat} (g : Has s a o) : Has (tk n s) a o := g
theorem has_upd (g : Has s d (dO es ep)) (e : DictEntry) : Has (upd d e s) d (dO (es ++ [e]) (ep + 1)) := by
  obtain ⟨g1, g2, _⟩ := g
  refine ⟨g1, ?_, rfl⟩
  show (s.tree.set d _).get d = _
  rw [BT.get_set, if_pos rfl, g2, Option.map_some]
  show some (Obj.mk _ _ (.dict (es.toArray.push e) (ep + 1)) _) = some (Obj.mk _ _ (.dict (es ++ [e]).toArray (ep + 1)) _)
  rw [List.push_toArray]
theorem has_upd_ne {o : Obj} (g : Has s a o) (h : a ≠ d) (e : DictEntry) : Has (upd d e s) a o := by
  obtain ⟨g1, g2, g3⟩ := g
  refine ⟨g1, ?_, g3⟩
  show (s.tree.set d _).get a = _
  rw [BT.get_set, if_neg h, g2]
theorem ev_entries {q : Option Value} (g : Has s d (dO es ep)) : Ev w 1 (dictEntries d q) s p es.toArray s p := by
  show Ev w 1 (.load d q fun o => _) s p _ s p
  exact Ev.load g Ev.pure
theorem ev_epoch {q : Option Value} (g : Has s d (dO es ep)) : Ev w 1 (dictEpoch d q) s p ep s p := by
  show Ev w 1 (.load d q fun o => _) s p _ s p
  exact Ev.load g Ev.pure
theorem places_none {h : Int} (hp : ∀ e ∈ es, e.hash ≠ h) : placesWithHash es.toArray.size (fun i => es.toArray[i]?.map (·.hash)) h = [] := by
  unfold placesWithHash
  rw [List.filter_eq_nil_iff]
  intro i hi
  dsimp only
  rw [List.getElem?_toArray]
  cases e : es[i]? with
  | none => simp
  | some x =>
    have := hp x (List.mem_of_getElem? e)
    simpa using this
theorem ev_find {i : Int} {t : Tok} {h : Int} (g : Has s d (dO es ep)) (hp : ∀ e ∈ es, e.hash ≠ h) : Ev w 1 (dictFind d (.int i t) h) s p none s p := by
  unfold dictFind
  refine Ev.holding ?_
  refine Ev.bind (n := 1) (m := 0) (ev_entries g) ?_
  show Ev w 0 (if ((Value.int i t :: (placesWithHash es.toArray.size (fun i => es.toArray[i]?.map (·.hash)) h).filterMap fun i => es.toArray[i]?.map (·.key)).all carriedByValue) = true then (do return ← dictWalkPlain d (.int i t) h es.toArray (placesWithHash es.toArray.size (fun i => es.toArray[i]?.map (·.hash)) h)) else _) s p none s p
  rw [places_none hp]
  exact Ev.pure
theorem ev_updKeys {q : Option Value} {e : DictEntry} (g : Has s d (dO es ep)) (l : Nat.ble 11 d = true) (z : es.length < sizeLine) : Ev w 3 (updateDictKeys d (·.push e) q) s p () (upd d e s) p := by
  show Ev w 3 (.load d q fun o => _) s p _ _ p
  refine Ev.load g ?_
  show Ev w 2 (.update d q _ fun _ => _) s p _ _ p
  refine Ev.update g l ?_
  show Ev w 1 (.load d q fun o => _) (upd d e s) p _ _ p
  refine Ev.load (has_upd g e) ?_
  have hl : (dO (es ++ [e]) (ep + 1)).data.pastItsLine = none := by
    show (if (es ++ [e]).toArray.size > sizeLine + 1 then some "dict:memory" else none) = none
    rw [if_neg (by simp; (first | lia | omega))]
  show Ev w 0 (match (dO (es ++ [e]) (ep + 1)).data.pastItsLine with | some what => unsupported what | x => pure ()) (upd d e s) p _ _ p
  rw [hl]
  exact Ev.pure
theorem ev_put {i : Int} {t : Tok} {h : Int} {v : Value} (g : Has s d (dO es ep)) (hp : ∀ e ∈ es, e.hash ≠ h) (l : Nat.ble 11 d = true) (z : es.length < sizeLine) : Ev w 4 (dictPut d h (.int i t) v) s p () (upd d ⟨h, .int i t, v⟩ s) p := by
  unfold dictPut
  refine Ev.bind (n := 1) (m := 3) (ev_find g hp) ?_
  exact ev_updKeys g l z
theorem ev_set {i : Int} {t : Tok} {v : Value} (g : Has s d (dO es ep)) (hp : ∀ e ∈ es, e.hash ≠ hashInt i) (l : Nat.ble 11 d = true) (z : es.length < sizeLine) : Ev w 10 (dictSet d (.int i t) v) s p () (upd d ⟨hashInt i, .int i t, v⟩ (tk 1 s)) p := by
  unfold dictSet
  refine Ev.holding (Ev.bind (n := 5) (m := 5) (ev_hash i t) ?_)
  unfold dictSetHashed
  refine Ev.holding (Ev.bind (n := 1) (m := 4) (ev_find (has_tk g) hp) ?_)
  show Ev w 4 (.rule _ fun _ => _) _ p _ _ p
  exact Ev.rule (ev_updKeys (has_tk g) l z)
theorem ev_inst (g : Has s a (dO es ep)) : Ev w 1 (isInstance (.ref a) (.type "dict")) s p true s p := by
  show Ev w 1 (.load a _ fun o => _) s p _ s p
  exact Ev.load g (fun _ _ _ _ => by kernel_rfl)
theorem ev_iter (g : Has s a (dO es ep)) : Ev w 1 (specialOf (.ref a) (Str.ofString "__iter__")) s p (some (.builtin "dict.__iter__")) s p := by
  show Ev w 1 (.load a _ fun o => _) s p _ s p
  exact Ev.load g (fun _ _ _ _ => by kernel_rfl)
-- one dict laid into another
theorem ev_mergeGo {f : Nat → PUnit → Sem (ForInStep PUnit)} {sub : List DictEntry} {eb : Nat}
    (hf : f = fun i _ => (do
      let __do_lift ← dictEntries a
      match __do_lift[i]? with
      | some e => do
        holding [e.key, e.val] (dictPut d e.hash e.key e.val)
        let __do_lift ← dictEpoch a
        if (__do_lift != eb) = true then do
          unsupported "dict.changed-during-merge"
          pure (ForInStep.yield PUnit.unit)
        else pure (ForInStep.yield PUnit.unit)
      | _ => do
        unsupported "dict.changed-during-merge"
        pure (ForInStep.yield PUnit.unit)))
    (hne : a ≠ d) (l : Nat.ble 11 d = true) (hk : ∀ e ∈ sub, ∃ i t, e.key = .int i t) :
    ∀ (todo done es : List DictEntry) (ep : Nat) (s : SharedT), sub = done ++ todo → Has s a (dO sub eb) → Has s d (dO es ep) → (∀ e ∈ todo, ∀ e' ∈ es, e'.hash ≠ e.hash) → todo.Pairwise (fun e e' => e.hash ≠ e'.hash) →
      es.length + todo.length < sizeLine → Ev w (6 * todo.length) (forIn (List.range' done.length todo.length) PUnit.unit f) s p PUnit.unit (todo.foldl (fun s e => upd d e s) s) p
  | [], done, es, ep, s, _, _, _, _, _, _ => Ev.pure
  | e :: todo, done, es, ep, s, hs, ga, gd, hd, hp, z => by
    have hm : e ∈ sub := by rw [hs]; simp
    obtain ⟨i, t, hkey⟩ := hk e hm
    have hat : sub.toArray[done.length]? = some e := by rw [List.getElem?_toArray, hs]; simp
    rw [List.length_cons] at z
    rw [List.length_cons, List.range'_succ, List.forIn_cons, show 6 * (todo.length + 1) = 6 + 6 * todo.length by (first | lia | omega)]
    have e1 : Ev w 6 (f done.length PUnit.unit) s p (ForInStep.yield PUnit.unit) (upd d e s) p := by
      subst hf
      refine Ev.bind (n := 1) (m := 5) (ev_entries ga) ?_
      rw [hat]
      dsimp only
      refine Ev.bind (n := 4) (m := 1) (Ev.holding (by rw [hkey]; exact ev_put gd (fun e' h' => hd e (List.mem_cons_self ..) e' h') l (by (first | lia | omega)))) ?_
      have he : (⟨e.hash, .int i t, e.val⟩ : DictEntry) = e := by cases e; simp_all
      rw [he]
      refine Ev.bind (n := 1) (m := 0) (ev_epoch (has_upd_ne ga hne e)) ?_
      rw [if_neg (by simp)]
      exact Ev.pure
    refine Ev.bind e1 ?_
    have hp' := List.pairwise_cons.mp hp
    have ih := ev_mergeGo hf hne l hk todo (done ++ [e]) (es ++ [e]) (ep + 1) (upd d e s) (by rw [hs]; simp) (has_upd_ne ga hne e) (has_upd gd e)
      (fun x hx e' he' => by
        rcases List.mem_append.mp he' with h | h
        · exact hd x (List.mem_cons_of_mem _ hx) e' h
        · rw [List.mem_singleton.mp h]; exact hp'.1 x hx) hp'.2 (by simp; (first | lia | omega))
    rw [List.length_append, List.length_singleton] at ih
    exact ih
theorem ev_merge {sub : List DictEntry} {eb : Nat} (ga : Has s a (dO sub eb)) (gd : Has s d (dO es ep)) (hne : a ≠ d) (h1 : a ≠ sysModules) (l : Nat.ble 11 d = true) (hk : ∀ e ∈ sub, ∃ i t, e.key = .int i t)
    (hd : ∀ e ∈ sub, ∀ e' ∈ es, e'.hash ≠ e.hash) (hp : sub.Pairwise (fun e e' => e.hash ≠ e'.hash)) (z : es.length + sub.length < sizeLine) (h0 : es ≠ []) :
    Ev w (5 + 6 * sub.length) (mergeMapping d (.ref a) false) s p () (sub.foldl (fun s e => upd d e s) s) p := by
  unfold mergeMapping
  dsimp only
  rw [show 5 + 6 * sub.length = 1 + (1 + (0 + (1 + (1 + (1 + (6 * sub.length + 0)))))) by (first | lia | omega)]
  refine Ev.bind (ev_inst ga) ?_
  rw [if_pos rfl]
  refine Ev.bind (ev_iter ga) ?_
  refine Ev.bind (n := 0) Ev.pure ?_
  show Ev w _ (if (a == sysModules) = true then _ else _) s p _ _ p
  rw [if_neg (by simpa using h1)]
  refine Ev.bind (ev_entries gd) ?_
  rw [if_neg (by simpa using h0)]
  refine Ev.bind (ev_entries ga) ?_
  refine Ev.bind (ev_epoch ga) ?_
  refine Ev.bind (a := PUnit.unit) ?_ Ev.pure
  rw [List.range_eq_range', List.size_toArray]
  exact ev_mergeGo rfl hne l hk sub [] es ep s rfl ga gd hd hp z
end
end Mine
end

section
open PySem PySem.W PyProof.Rows
set_option maxRecDepth 100000
set_option maxHeartbeats 1000000
namespace Mine
-- the heap's tree has no gaps
noncomputable def Full (t : BT) (n : Nat) : Prop := ∀ i, i < n → (t.get i).isSome = true
theorem full_ins_get (o : Obj) : ∀ (t : BT) (n : Nat), Full t n → ((t.ins n o).get n).isSome = true
  | .nil, n, h => by
    have : n = 0 := by
      cases n with
      | zero => rfl
      | succ n => have := h 0 (by (first | lia | omega)); simp [BT.get] at this
    subst this; rfl
  | .node v l r, n, h => by
    rw [BT.ins_node]
    by_cases h0 : n = 0
    · subst h0; rw [if_pos rfl, BT.get_node, if_pos rfl]; rfl
    · rw [if_neg h0]
      by_cases h1 : n % 2 = 1
      · rw [if_pos h1, BT.get_node, if_neg h0, if_pos h1]
        refine full_ins_get o l (n / 2) fun j hj => ?_
        have := h (2 * j + 1) (by (first | lia | omega))
        rw [BT.get_node, if_neg (by (first | lia | omega)), if_pos (by (first | lia | omega)), show (2 * j + 1) / 2 = j by (first | lia | omega)] at this
        exact this
      · rw [if_neg h1, BT.get_node, if_neg h0, if_neg h1]
        refine full_ins_get o r (n / 2 - 1) fun j hj => ?_
        have := h (2 * j + 2) (by (first | lia | omega))
        rw [BT.get_node, if_neg (by (first | lia | omega)), if_neg (by (first | lia | omega)), show (2 * j + 2) / 2 - 1 = j by (first | lia | omega)] at this
        exact this
theorem full_ins {o : Obj} {t : BT} {n : Nat} (h : Full t n) : Full (t.ins n o) (n + 1) := fun i hi => by
  rw [BT.get_ins o t n (full_ins_get o t n h)]
  by_cases e : i = n
  · rw [if_pos e]; rfl
  · rw [if_neg e]; exact h i (by (first | lia | omega))
theorem full_set {f : Obj → Obj} {t : BT} {n a : Nat} (h : Full t n) : Full (t.set a f) n := fun i hi => by
  rw [BT.get_set]
  by_cases e : i = a
  · rw [if_pos e, Option.isSome_map]; exact h a (e ▸ hi)
  · rw [if_neg e]; exact h i hi
noncomputable def insS (s : SharedT) : SharedT := { s with tree := s.tree.ins s.n (dO [] 0), n := s.n + 1 }
section
variable {w : World} {s s' s₁ : SharedT} {p p' p₁ dp : Pos} {d a : Addr} {es : List DictEntry} {ep : Nat}
theorem has_ins {o : Obj} (F : Full s.tree s.n) (g : Has s a o) : Has (insS s) a o ∧ a ≠ s.n := by
  obtain ⟨g1, g2, g3⟩ := g
  have lt : a < s.n := Nat.le_of_ble_eq_true g1
  refine ⟨⟨?_, ?_, g3⟩, Nat.ne_of_lt lt⟩
  · exact Nat.ble_eq_true_of_le (Nat.le_succ_of_le lt)
  · show (s.tree.ins s.n _).get a = _
    rw [BT.get_ins _ _ _ (full_ins_get _ _ _ F), if_neg (Nat.ne_of_lt lt)]; exact g2
theorem has_new (F : Full s.tree s.n) : Has (insS s) s.n (dO [] 0) := by
  refine ⟨?_, ?_, rfl⟩
  · exact Nat.ble_eq_true_of_le (Nat.le_refl _)
  · show (s.tree.ins s.n _).get s.n = _
    rw [BT.get_ins _ _ _ (full_ins_get _ _ _ F), if_pos rfl]
abbrev Ent := Int × Str
noncomputable def PairOk (w : World) (dp : Pos) (pr : Sem Value × Sem Value) (e : Ent) : Prop :=
  (∀ s p, Ev w 1 pr.1 s p (.int e.1 s.toks) (tk 1 s) p) ∧ ∀ s p, Ev w 2 pr.2 s p (.str e.2 s.toks) (tk 1 s) dp
inductive PairsOk (w : World) (dp : Pos) : List (Sem Value × Sem Value) → List Ent → Prop
  | nil : PairsOk w dp [] []
  | cons {pr e ps es} : PairOk w dp pr e → PairsOk w dp ps es → PairsOk w dp (pr :: ps) (e :: es)
theorem PairsOk.length {ps : List (Sem Value × Sem Value)} {en : List Ent} (h : PairsOk w dp ps en) : ps.length = en.length := by
  induction h with
  | nil => rfl
  | cons _ _ ih => rw [List.length_cons, List.length_cons, ih]
noncomputable def hs (en : List Ent) : List Int := en.map fun e => hashInt e.1
noncomputable def subEs : List Ent → Nat → List DictEntry
  | [], _ => []
  | e :: r, t => ⟨hashInt e.1, .int e.1 t, .str e.2 (t + 1)⟩ :: subEs r (t + 3)
noncomputable def subRun (d : Addr) : List Ent → SharedT → SharedT
  | [], s => s
  | e :: r, s => subRun d r (upd d ⟨hashInt e.1, .int e.1 s.toks, .str e.2 (s.toks + 1)⟩ (tk 3 s))
theorem subEs_hash : ∀ (en : List Ent) (t : Nat), (subEs en t).map (·.hash) = hs en
  | [], _ => rfl
  | e :: r, t => by rw [subEs, List.map_cons, subEs_hash r]; rfl
theorem subEs_key : ∀ (en : List Ent) (t : Nat), ∀ e ∈ subEs en t, ∃ i t, e.key = .int i t
  | [], _, _, h => by cases h
  | x :: r, t, e, h => by
    rcases List.mem_cons.mp h with rfl | h
    · exact ⟨_, _, rfl⟩
    · exact subEs_key r _ e h
theorem subEs_len : ∀ (en : List Ent) (t : Nat), (subEs en t).length = en.length
  | [], _ => rfl
  | e :: r, t => by rw [subEs, List.length_cons, List.length_cons, subEs_len r]
theorem subRun_toks : ∀ (en : List Ent) (s : SharedT), (subRun d en s).toks = s.toks + 3 * en.length
  | [], _ => rfl
  | e :: r, s => by rw [subRun, subRun_toks r]; show s.toks + 3 + 3 * r.length = _; rw [List.length_cons]; (first | lia | omega)
theorem subRun_n : ∀ (en : List Ent) (s : SharedT), (subRun d en s).n = s.n
  | [], _ => rfl
  | e :: r, s => by rw [subRun, subRun_n r]; rfl
theorem subRun_full : ∀ (en : List Ent) (s : SharedT) {n : Nat}, Full s.tree n → Full (subRun d en s).tree n
  | [], _, _, h => h
  | e :: r, s, _, h => subRun_full r _ (full_set (t := s.tree) h)
theorem subRun_other {o : Obj} (hne : a ≠ d) : ∀ (en : List Ent) (s : SharedT), Has s a o → Has (subRun d en s) a o
  | [], _, h => h
  | e :: r, s, h => subRun_other hne r _ (has_upd_ne (has_tk h) hne _)
theorem subRun_own : ∀ (en : List Ent) (s : SharedT) (es : List DictEntry) (ep : Nat), Has s d (dO es ep) → Has (subRun d en s) d (dO (es ++ subEs en s.toks) (ep + en.length))
  | [], s, es, ep, h => by rw [subEs, List.append_nil]; exact h
  | e :: r, s, es, ep, h => by
    have := subRun_own r _ _ _ (has_upd (has_tk (n := 3) h) ⟨hashInt e.1, .int e.1 s.toks, .str e.2 (s.toks + 1)⟩)
    rw [List.append_assoc, show ep + 1 + r.length = ep + (e :: r).length by rw [List.length_cons]; (first | lia | omega)] at this
    exact this
theorem mem_hash {es : List DictEntry} {h : Int} {l : List Int} (e : es.map (·.hash) = l) (n : ∀ x ∈ l, x ≠ h) : ∀ x ∈ es, x.hash ≠ h := fun x hx => n _ (e ▸ List.mem_map_of_mem hx)
theorem ev_subGo {f : Sem Value × Sem Value → PUnit → Sem (ForInStep PUnit)}
    (hf : f = fun x _ => (match x with
      | (k, v) => do
        let kv ← k
        let vv ← holding [kv] v
        holding [kv, vv] (dictSet d kv vv)
        pure (ForInStep.yield PUnit.unit))) (l : Nat.ble 11 d = true) :
    ∀ (ps : List (Sem Value × Sem Value)) (en : List Ent) (s : SharedT) (p : Pos) (es : List DictEntry) (ep : Nat), PairsOk w dp ps en → Has s d (dO es ep) → (∀ x ∈ hs en, ∀ e' ∈ es, e'.hash ≠ x) → (hs en).Pairwise (· ≠ ·) →
      es.length + en.length < sizeLine → Ev w (13 * en.length) (forIn ps PUnit.unit f) s p PUnit.unit (subRun d en s) (if en.isEmpty then p else dp)
  | _, _, s, p, es, ep, .nil, _, _, _, _ => Ev.pure
  | _, _, s, p, es, ep, .cons (pr := pr) (e := e) (ps := ps) (es := en) h hr, gd, hd, hp, z => by
    rw [List.length_cons] at z
    have hp' : (hashInt e.1 :: hs en).Pairwise (· ≠ ·) := hp
    rw [List.pairwise_cons] at hp'
    rw [List.forIn_cons, List.length_cons, show 13 * (en.length + 1) = 13 + 13 * en.length by (first | lia | omega)]
    have e1 : Ev w 13 (f pr PUnit.unit) s p (ForInStep.yield PUnit.unit) (upd d ⟨hashInt e.1, .int e.1 s.toks, .str e.2 (s.toks + 1)⟩ (tk 3 s)) dp := by
      subst hf
      obtain ⟨k, v⟩ := pr
      refine Ev.bind (n := 1) (m := 12) (h.1 s p) ?_
      refine Ev.bind (n := 2) (m := 10) (Ev.holding (h.2 _ _)) ?_
      refine Ev.bind (n := 10) (m := 0) (Ev.holding (ev_set (es := es) (ep := ep) gd (fun e' he' => hd _ (List.mem_cons_self ..) e' he') l (by (first | lia | omega)))) ?_
      exact Ev.pure
    refine Ev.bind e1 ?_
    have ih := ev_subGo hf l ps en (upd d ⟨hashInt e.1, .int e.1 s.toks, .str e.2 (s.toks + 1)⟩ (tk 3 s)) dp _ _ hr (has_upd (has_tk gd) _)
      (fun x hx e' he' => by
        rcases List.mem_append.mp he' with q | q
        · exact hd x (List.mem_cons_of_mem _ hx) e' q
        · rw [List.mem_singleton.mp q]; exact hp'.1 x hx) hp'.2 (by simp; (first | lia | omega))
    cases hen : en.isEmpty <;> rw [hen] at ih <;> exact ih
theorem ev_subLong {ps : List (Sem Value × Sem Value)} {en : List Ent} (ok : PairsOk w dp ps en) (F : Full s.tree s.n) (h15 : 15 < en.length) (l : Nat.ble 11 s.n = true) (hp : (hs en).Pairwise (· ≠ ·)) (z : en.length < sizeLine) :
    Ev w (2 + 13 * en.length) (subDict ps) s p s.n (subRun s.n en (insS s)) dp := by
  unfold subDict
  rw [show 2 + 13 * en.length = (0 + 1) + ((1 + ((13 * en.length) + 0)) + 0) by (first | lia | omega)]
  refine Ev.bind (a := s.n) (s₁ := insS s) (p₁ := p) (Ev.alloc (full_ins_get _ _ _ F) Ev.pure) ?_
  refine Ev.bind (a := ()) (Ev.holding ?_) Ev.pure
  rw [if_neg (by rw [ok.length]; (first | lia | omega))]
  refine Ev.bind (n := 1) (Ev.rule Ev.pure) ?_
  refine Ev.bind (a := PUnit.unit) ?_ Ev.pure
  have := ev_subGo (w := w) (dp := dp) (d := s.n) rfl l ps en (insS s) p [] 0 ok (has_new F) (fun _ _ _ h => by cases h) hp (by simpa using z)
  rw [if_neg (by cases en with | nil => simp at h15 | cons => simp)] at this
  exact this
-- the last run: first all pairs, then all stores
noncomputable def vsOf : List Ent → Nat → List (Value × Value)
  | [], _ => []
  | e :: r, t => (.int e.1 t, .str e.2 (t + 1)) :: vsOf r (t + 2)
theorem ev_pairs : ∀ (ps : List (Sem Value × Sem Value)) (en : List Ent) (s : SharedT) (p : Pos), PairsOk w dp ps en → Ev w (3 * en.length) (evalPairs ps) s p (vsOf en s.toks) (tk (2 * en.length) s) (if en.isEmpty then p else dp)
  | _, _, s, p, .nil => Ev.pure
  | _, _, s, p, .cons (pr := pr) (e := e) (ps := ps) (es := en) h hr => by
    obtain ⟨k, v⟩ := pr
    rw [evalPairs, List.length_cons, show 3 * (en.length + 1) = 1 + (2 + (3 * en.length + 0)) by (first | lia | omega)]
    refine Ev.bind (h.1 s p) ?_
    refine Ev.bind (Ev.holding (h.2 _ _)) ?_
    have ih := ev_pairs ps en (tk 1 (tk 1 s)) dp hr
    have e1 : tk (2 * en.length) (tk 1 (tk 1 s)) = tk (2 * (en.length + 1)) s := by unfold tk; simp; (first | lia | omega)
    have e2 : (if en.isEmpty then dp else dp) = dp := by split <;> rfl
    rw [e1, e2] at ih
    exact Ev.bind (Ev.holding ih) Ev.pure
noncomputable def shEs (en : List Ent) (t : Nat) : List DictEntry := (vsOf en t).map fun x => match x.1 with
  | .int i t => ⟨hashInt i, .int i t, x.2⟩
  | k => ⟨0, k, x.2⟩
noncomputable def shRun (d : Addr) : List DictEntry → SharedT → SharedT
  | [], s => s
  | e :: r, s => shRun d r (upd d e (tk 1 s))
theorem shEs_cons (e : Ent) (en : List Ent) (t : Nat) : shEs (e :: en) t = ⟨hashInt e.1, .int e.1 t, .str e.2 (t + 1)⟩ :: shEs en (t + 2) := rfl
theorem shEs_hash : ∀ (en : List Ent) (t : Nat), (shEs en t).map (·.hash) = hs en
  | [], _ => rfl
  | e :: r, t => by rw [shEs_cons, List.map_cons, shEs_hash r]; rfl
theorem shEs_key : ∀ (en : List Ent) (t : Nat), ∀ e ∈ shEs en t, ∃ i t, e.key = .int i t
  | [], _, _, h => by cases h
  | x :: r, t, e, h => by
    rw [shEs_cons] at h
    rcases List.mem_cons.mp h with rfl | h
    · exact ⟨_, _, rfl⟩
    · exact shEs_key r _ e h
theorem shEs_len : ∀ (en : List Ent) (t : Nat), (shEs en t).length = en.length
  | [], _ => rfl
  | e :: r, t => by rw [shEs_cons, List.length_cons, List.length_cons, shEs_len r]
theorem ev_shGo {f : Value × Value → PUnit → Sem (ForInStep PUnit)}
    (hf : f = fun x _ => (match x with
      | (k, v) => do
        dictSet d k v
        pure (ForInStep.yield PUnit.unit))) (l : Nat.ble 11 d = true) :
    ∀ (en : List Ent) (t : Nat) (s : SharedT) (es : List DictEntry) (ep : Nat), Has s d (dO es ep) → (∀ x ∈ hs en, ∀ e' ∈ es, e'.hash ≠ x) → (hs en).Pairwise (· ≠ ·) →
      es.length + en.length < sizeLine → Ev w (10 * en.length) (forIn (vsOf en t) PUnit.unit f) s p PUnit.unit (shRun d (shEs en t) s) p ∧ Has (shRun d (shEs en t) s) d (dO (es ++ shEs en t) (ep + en.length))
  | [], t, s, es, ep, gd, _, _, _ => by
    refine ⟨Ev.pure, ?_⟩
    have : shEs [] t = [] := rfl
    rw [this, List.append_nil]
    exact gd
  | e :: en, t, s, es, ep, gd, hd, hp, z => by
    rw [List.length_cons] at z
    have hp' : (hashInt e.1 :: hs en).Pairwise (· ≠ ·) := hp
    rw [List.pairwise_cons] at hp'
    rw [vsOf, List.forIn_cons, List.length_cons, show 10 * (en.length + 1) = 10 + 10 * en.length by (first | lia | omega), shEs_cons]
    have e1 : Ev w 10 (f (.int e.1 t, .str e.2 (t + 1)) PUnit.unit) s p (ForInStep.yield PUnit.unit) (upd d ⟨hashInt e.1, .int e.1 t, .str e.2 (t + 1)⟩ (tk 1 s)) p := by
      subst hf
      exact Ev.bind (n := 10) (m := 0) (ev_set (es := es) (ep := ep) gd (fun e' he' => hd _ (List.mem_cons_self ..) e' he') l (by (first | lia | omega))) Ev.pure
    have ih := ev_shGo hf l en (t + 2) (upd d ⟨hashInt e.1, .int e.1 t, .str e.2 (t + 1)⟩ (tk 1 s)) _ _ (has_upd (has_tk gd) _)
      (fun x hx e' he' => by
        rcases List.mem_append.mp he' with q | q
        · exact hd x (List.mem_cons_of_mem _ hx) e' q
        · rw [List.mem_singleton.mp q]; exact hp'.1 x hx) hp'.2 (by simp; (first | lia | omega))
    refine ⟨Ev.bind e1 ih.1, ?_⟩
    have h2 := ih.2
    rw [List.append_assoc, show ep + 1 + en.length = ep + (en.length + 1) by (first | lia | omega)] at h2
    exact h2
theorem shRun_other {o : Obj} (hne : a ≠ d) : ∀ (en : List DictEntry) (s : SharedT), Has s a o → Has (shRun d en s) a o
  | [], _, h => h
  | e :: r, s, h => shRun_other hne r _ (has_upd_ne (has_tk h) hne _)
noncomputable def shortRun (en : List Ent) (s : SharedT) : SharedT := shRun s.n (shEs en s.toks) (tk (2 * en.length) (insS s))
theorem ev_subShort {ps : List (Sem Value × Sem Value)} {en : List Ent} (ok : PairsOk w dp ps en) (F : Full s.tree s.n) (h0 : en ≠ []) (h15 : en.length ≤ 15) (l : Nat.ble 11 s.n = true) (hp : (hs en).Pairwise (· ≠ ·)) (z : en.length < sizeLine) :
    Ev w (1 + 13 * en.length) (subDict ps) s p s.n (shortRun en s) dp ∧ Has (shortRun en s) s.n (dO (shEs en s.toks) en.length) := by
  have g := ev_shGo (w := w) (p := dp) (d := s.n) rfl l en s.toks (tk (2 * en.length) (insS s)) [] 0 (has_tk (has_new F)) (fun _ _ _ h => by cases h) hp (by simpa using z)
  refine ⟨?_, by have := g.2; rw [List.nil_append, Nat.zero_add] at this; exact this⟩
  unfold subDict
  rw [show 1 + 13 * en.length = (0 + 1) + (((3 * en.length) + (10 * en.length + 0)) + 0) by (first | lia | omega)]
  refine Ev.bind (a := s.n) (s₁ := insS s) (p₁ := p) (Ev.alloc (full_ins_get _ _ _ F) Ev.pure) ?_
  refine Ev.bind (a := ()) (Ev.holding ?_) Ev.pure
  rw [if_pos (by rw [ok.length]; (first | lia | omega))]
  have q := ev_pairs ps en (insS s) p ok
  rw [if_neg (by cases en with | nil => exact absurd rfl h0 | cons => simp)] at q
  refine Ev.bind q (Ev.holding ?_)
  exact Ev.bind (a := PUnit.unit) g.1 Ev.pure
end
end Mine
end

section
open PySem PySem.W PyProof.Rows
set_option maxRecDepth 100000
set_option maxHeartbeats 1000000
namespace Mine
abbrev Prs := List (Sem Value × Sem Value)
noncomputable def FL (main : Option Addr) (run : Prs) : Sem (Option Addr) :=
  if run.isEmpty = true then pure main
  else
    match main with
    | none => do
      let __do_lift ← subDict run
      pure (some __do_lift)
    | some d => do
      let sub ← holding [Value.ref d] (subDict run)
      (holding [Value.ref d, Value.ref sub] (mergeMapping d (Value.ref sub) false)).onRaise fun x => do
        let _ ← holding [Value.ref d, x] (runValue (Code.builtin "proto.let_go" { }))
        pure ()
      pure (some d)
abbrev FTy := (Option (Sem Value) × Sem Value) → (Option Addr × Prs) → Sem (ForInStep (Option Addr × Prs))
structure FOk (f : FTy) : Prop where
  more : ∀ (p : Sem Value × Sem Value) (m : Option Addr) (run : Prs), run.length + 1 < 17 → f (some p.1, p.2) (m, run) = pure (.yield (m, run ++ [p]))
  full : ∀ (p : Sem Value × Sem Value) (m : Option Addr) (run : Prs), run.length + 1 = 17 → f (some p.1, p.2) (m, run) = (FL m (run ++ [p]) >>= fun m' => pure (.yield (m', [])))
noncomputable def its (ps : Prs) : List (Option (Sem Value) × Sem Value) := ps.map fun p => (some p.1, p.2)
theorem gather {f : FTy} (hf : FOk f) (rest : List (Option (Sem Value) × Sem Value)) (m : Option Addr) : ∀ (ps run : Prs), run.length + ps.length < 17 → forIn (its ps ++ rest) (m, run) f = forIn rest (m, run ++ ps) f
  | [], run, _ => by rw [List.append_nil]; rfl
  | p :: ps, run, h => by
    rw [List.length_cons] at h
    show forIn ((some p.1, p.2) :: (its ps ++ rest)) (m, run) f = _
    rw [List.forIn_cons, hf.more p m run (by (first | lia | omega)), pure_bind]
    have := gather hf rest m ps (run ++ [p]) (by simp; (first | lia | omega))
    rw [List.append_assoc] at this
    exact this
theorem gatherFull {f : FTy} (hf : FOk f) (rest : List (Option (Sem Value) × Sem Value)) (m : Option Addr) : ∀ (ps run : Prs), ps ≠ [] → run.length + ps.length = 17 →
    forIn (its ps ++ rest) (m, run) f = (FL m (run ++ ps) >>= fun m' => forIn rest (m', []) f)
  | [], _, h, _ => absurd rfl h
  | [p], run, _, h => by
    show forIn ((some p.1, p.2) :: rest) (m, run) f = _
    rw [List.forIn_cons, hf.full p m run (by simpa using h), bind_assoc]
    simp only [pure_bind]
  | p :: q :: ps, run, _, h => by
    rw [List.length_cons, List.length_cons] at h
    show forIn ((some p.1, p.2) :: (its (q :: ps) ++ rest)) (m, run) f = _
    rw [List.forIn_cons, hf.more p m run (by (first | lia | omega)), pure_bind]
    have := gatherFull hf rest m (q :: ps) (run ++ [p]) (by simp) (by simp; (first | lia | omega))
    rw [List.append_assoc] at this
    exact this
section
variable {w : World} {s s' s₁ : SharedT} {p p' p₁ dp : Pos} {d a : Addr} {es : List DictEntry} {ep : Nat}
noncomputable def mrg (d : Addr) (sub : List DictEntry) (s : SharedT) : SharedT := sub.foldl (fun s e => upd d e s) s
theorem mrg_own : ∀ (sub : List DictEntry) (s : SharedT) (es : List DictEntry) (ep : Nat), Has s d (dO es ep) → Has (mrg d sub s) d (dO (es ++ sub) (ep + sub.length))
  | [], s, es, ep, h => by rw [List.append_nil]; exact h
  | e :: r, s, es, ep, h => by
    have := mrg_own r _ _ _ (has_upd h e)
    rw [List.append_assoc, show ep + 1 + r.length = ep + (e :: r).length by rw [List.length_cons]; (first | lia | omega)] at this
    exact this
theorem mrg_n : ∀ (sub : List DictEntry) (s : SharedT), (mrg d sub s).n = s.n
  | [], _ => rfl
  | e :: r, s => (mrg_n r (upd d e s)).trans rfl
theorem mrg_full : ∀ (sub : List DictEntry) (s : SharedT) {n : Nat}, Full s.tree n → Full (mrg d sub s).tree n
  | [], _, _, h => h
  | e :: r, s, _, h => mrg_full r (upd d e s) (full_set (t := s.tree) h)
noncomputable def chunkS (d : Addr) (en : List Ent) (s : SharedT) : SharedT := mrg d (subEs en s.toks) (subRun s.n en (insS s))
noncomputable def lastS (d : Addr) (en : List Ent) (s : SharedT) : SharedT := mrg d (shEs en s.toks) (shortRun en s)
structure Inv (s : SharedT) (d : Addr) (done : List Ent) : Prop where
  F : Full s.tree s.n
  own : ∃ es ep, Has s d (dO es ep) ∧ es.map (·.hash) = hs done ∧ es ≠ []
  low : Nat.ble 11 d = true
  n : Nat.ble 11 s.n = true ∧ s.n ≠ sysModules
theorem hs_append (a b : List Ent) : hs (a ++ b) = hs a ++ hs b := List.map_append ..
theorem inv_len {es : List DictEntry} {done : List Ent} (h : es.map (·.hash) = hs done) : es.length = done.length := by
  have := congrArg List.length h
  simpa [hs] using this
theorem pw_split {en done : List Ent} (hp : (hs (done ++ en)).Pairwise (· ≠ ·)) : (hs en).Pairwise (· ≠ ·) ∧ ∀ x ∈ hs en, ∀ y ∈ hs done, y ≠ x := by
  rw [hs_append, List.pairwise_append] at hp
  exact ⟨hp.2.1, fun x hx y hy => hp.2.2 y hy x hx⟩
theorem pw_es {es : List DictEntry} {en : List Ent} (h : es.map (·.hash) = hs en) (hp : (hs en).Pairwise (· ≠ ·)) : es.Pairwise fun e e' => e.hash ≠ e'.hash := by
  rw [← h, List.pairwise_map] at hp
  exact hp
theorem ev_chunk {ps : Prs} {en done : List Ent} (ok : PairsOk w dp ps en) (I : Inv s d done) (h15 : 15 < en.length) (hp : (hs (done ++ en)).Pairwise (· ≠ ·)) (z : done.length + en.length < sizeLine) :
    Ev w (7 + 19 * en.length) (FL (some d) ps) s p (some d) (chunkS d en s) dp ∧ Inv (chunkS d en s) d (done ++ en) := by
  obtain ⟨es, ep, g, hh, hne⟩ := I.own
  obtain ⟨hp1, hp2⟩ := pw_split hp
  have hl := inv_len hh
  obtain ⟨gi, hdn⟩ := has_ins I.F g
  have g1 : Has (subRun s.n en (insS s)) d (dO es ep) := subRun_other hdn en _ gi
  have ga : Has (subRun s.n en (insS s)) s.n (dO (subEs en s.toks) en.length) := by
    have := subRun_own en (insS s) [] 0 (has_new I.F)
    rw [List.nil_append, Nat.zero_add] at this
    exact this
  have hx : ∀ e ∈ subEs en s.toks, ∀ e' ∈ es, e'.hash ≠ e.hash := fun e he e' he' => hp2 _ (subEs_hash en s.toks ▸ List.mem_map_of_mem (f := (·.hash)) he) _ (hh ▸ List.mem_map_of_mem (f := (·.hash)) he')
  have m := ev_merge (w := w) (p := dp) ga g1 (Ne.symm hdn) I.n.2 I.low (subEs_key en s.toks) hx (pw_es (subEs_hash en s.toks) hp1) (by rw [subEs_len]; (first | lia | omega)) hne
  rw [subEs_len] at m
  refine ⟨?_, ⟨?_, ?_, I.low, ?_⟩⟩
  · unfold FL
    rw [if_neg (by rw [List.isEmpty_iff]; intro e; rw [e] at ok; have := ok.length; simp at this; (first | lia | omega))]
    rw [show 7 + 19 * en.length = (2 + 13 * en.length) + ((5 + 6 * en.length) + 0) by (first | lia | omega)]
    refine Ev.bind (Ev.holding (ev_subLong ok I.F h15 I.n.1 hp1 (by (first | lia | omega)))) ?_
    refine Ev.bind (a := ()) (Ev.onRaise (Ev.holding m)) ?_
    exact Ev.pure
  · rw [chunkS, mrg_n, subRun_n]
    exact mrg_full _ _ (subRun_full _ _ (full_ins I.F))
  · refine ⟨_, _, mrg_own _ _ _ _ g1, ?_, by simp [hne]⟩
    rw [List.map_append, hh, subEs_hash, hs_append]
  · rw [chunkS, mrg_n, subRun_n]
    refine ⟨?_, ?_⟩
    · have := Nat.le_of_ble_eq_true I.n.1
      exact Nat.ble_eq_true_of_le (Nat.le_succ_of_le this)
    · have := Nat.le_of_ble_eq_true I.n.1
      show s.n + 1 ≠ sysModules
      have e : sysModules = 1 := rfl
      rw [e]; (first | lia | omega)
theorem ev_last {ps : Prs} {en done : List Ent} (ok : PairsOk w dp ps en) (I : Inv s d done) (h0 : en ≠ []) (h15 : en.length ≤ 15) (hp : (hs (done ++ en)).Pairwise (· ≠ ·)) (z : done.length + en.length < sizeLine) :
    Ev w (6 + 19 * en.length) (FL (some d) ps) s p (some d) (lastS d en s) dp := by
  obtain ⟨es, ep, g, hh, hne⟩ := I.own
  obtain ⟨hp1, hp2⟩ := pw_split hp
  have hl := inv_len hh
  obtain ⟨gi, hdn⟩ := has_ins I.F g
  obtain ⟨ev, ga⟩ := ev_subShort (w := w) (p := p) ok I.F h0 h15 I.n.1 hp1 (by (first | lia | omega))
  have g1 : Has (shortRun en s) d (dO es ep) := shRun_other hdn _ _ (has_tk gi)
  have hx : ∀ e ∈ shEs en s.toks, ∀ e' ∈ es, e'.hash ≠ e.hash := fun e he e' he' => hp2 _ (shEs_hash en s.toks ▸ List.mem_map_of_mem (f := (·.hash)) he) _ (hh ▸ List.mem_map_of_mem (f := (·.hash)) he')
  have m := ev_merge (w := w) (p := dp) ga g1 (Ne.symm hdn) I.n.2 I.low (shEs_key en s.toks) hx (pw_es (shEs_hash en s.toks) hp1) (by rw [shEs_len]; (first | lia | omega)) hne
  rw [shEs_len] at m
  unfold FL
  rw [if_neg (by rw [List.isEmpty_iff]; intro e; rw [e] at ok; have := ok.length; simp at this; exact h0 (List.eq_nil_of_length_eq_zero this.symm))]
  rw [show 6 + 19 * en.length = (1 + 13 * en.length) + ((5 + 6 * en.length) + 0) by (first | lia | omega)]
  refine Ev.bind (Ev.holding ev) ?_
  refine Ev.bind (a := ()) (Ev.onRaise (Ev.holding m)) ?_
  exact Ev.pure
theorem ev_first {ps : Prs} {en : List Ent} (ok : PairsOk w dp ps en) (F : Full s.tree s.n) (hn : Nat.ble 11 s.n = true) (h15 : 15 < en.length) (hp : (hs en).Pairwise (· ≠ ·)) (z : en.length < sizeLine) :
    Ev w (2 + 13 * en.length) (FL none ps) s p (some s.n) (subRun s.n en (insS s)) dp ∧ Inv (subRun s.n en (insS s)) s.n en := by
  refine ⟨?_, ⟨?_, ⟨_, _, subRun_own en (insS s) [] 0 (has_new F), ?_, ?_⟩, hn, ?_⟩⟩
  · unfold FL
    rw [if_neg (by rw [List.isEmpty_iff]; intro e; rw [e] at ok; have := ok.length; simp at this; (first | lia | omega))]
    exact Ev.bind (n := 2 + 13 * en.length) (m := 0) (ev_subLong ok F h15 hn hp z) Ev.pure
  · rw [subRun_n]; exact subRun_full _ _ (full_ins F)
  · rw [List.nil_append, subEs_hash]
  · rw [List.nil_append]; intro e; have := congrArg List.length e; rw [subEs_len] at this; simp at this; rw [this] at h15; simp at h15
  · rw [subRun_n]
    have := Nat.le_of_ble_eq_true hn
    have e : sysModules = 1 := rfl
    exact ⟨Nat.ble_eq_true_of_le (Nat.le_succ_of_le this), by show s.n + 1 ≠ _; rw [e]; (first | lia | omega)⟩
noncomputable def chunksS (d : Addr) : List (List Ent) → SharedT → SharedT
  | [], s => s
  | c :: cs, s => chunksS d cs (chunkS d c s)
inductive ChunksOk (w : World) (dp : Pos) : List Prs → List (List Ent) → Prop
  | nil : ChunksOk w dp [] []
  | cons {ps en pss ens} : PairsOk w dp ps en → en.length = 17 → ChunksOk w dp pss ens → ChunksOk w dp (ps :: pss) (en :: ens)
noncomputable def itss : List Prs → List (Option (Sem Value) × Sem Value)
  | [] => []
  | ps :: r => its ps ++ itss r
theorem ev_chunks {f : FTy} (hf : FOk f) : ∀ (pss : List Prs) (ens : List (List Ent)) (s : SharedT) (p : Pos) (done : List Ent) (lastP : Prs) (en : List Ent), ChunksOk w dp pss ens → Inv s d done → PairsOk w dp lastP en → en ≠ [] → en.length ≤ 15 →
    (hs (done ++ ens.flatten ++ en)).Pairwise (· ≠ ·) → done.length + ens.flatten.length + en.length < sizeLine →
    Ev w (330 * ens.length + (6 + 19 * en.length)) (forIn (itss pss ++ its lastP) (some d, []) f >>= fun st => FL st.1 st.2) s p (some d) (lastS d en (chunksS d ens s)) dp
  | _, _, s, p, done, lastP, en, .nil, I, ok, h0, h15, hp, z => by
    have := gather hf [] (some d) lastP [] (by rw [ok.length]; simp; (first | lia | omega))
    rw [List.append_nil] at this
    rw [itss, List.nil_append, this, List.forIn_nil, pure_bind]
    have e := ev_last (w := w) (p := p) ok I h0 h15 (by simpa using hp) (by simpa using z)
    rw [List.length_nil, Nat.mul_zero, Nat.zero_add]
    exact e
  | _, _, s, p, done, lastP, en, .cons (ps := ps) (en := e1) (pss := pss) (ens := ens) h hl hr, I, ok, h0, h15, hp, z => by
    have hp' : (hs ((done ++ e1) ++ ens.flatten ++ en)).Pairwise (· ≠ ·) := by simpa [List.append_assoc] using hp
    have hp1 : (hs (done ++ e1)).Pairwise (· ≠ ·) := by
      rw [List.append_assoc, hs_append, List.pairwise_append] at hp'; exact hp'.1
    rw [List.flatten_cons, List.length_append] at z
    obtain ⟨ev, I'⟩ := ev_chunk (p := p) h I (by (first | lia | omega)) hp1 (by (first | lia | omega))
    have ih := ev_chunks hf pss ens (chunkS d e1 s) dp (done ++ e1) lastP en hr I' ok h0 h15 hp' (by rw [List.length_append]; (first | lia | omega))
    have q := gatherFull hf (itss pss ++ its lastP) (some d) ps [] (by intro e; rw [e] at h; have := h.length; simp at this; (first | lia | omega)) (by rw [h.length, hl]; rfl)
    rw [itss, List.append_assoc, q, bind_assoc, List.nil_append]
    rw [hl] at ev
    rw [List.length_cons, show 330 * (ens.length + 1) + (6 + 19 * en.length) = 330 + (330 * ens.length + (6 + 19 * en.length)) by (first | lia | omega)]
    exact Ev.bind ev ih
theorem display_form : ∃ f : FTy, FOk f ∧ ∀ items, dictDisplay items = ((forIn items ((none : Option Addr), ([] : Prs)) f >>= fun st => FL st.1 st.2) >>= fun m => (match m with | some d => pure (Value.ref d) | none => newDict : Sem Value)) := by
  refine' ⟨_, ?h, fun items => ?e⟩
  case e =>
    unfold dictDisplay
    dsimp only
    rw [bind_assoc]
    rfl
  case h =>
    exact ⟨fun p m run h => by
      have hne : ((run ++ [(p.1, p.2)]).length == 17) = false := by simp; (first | lia | omega)
      simp only [hne, Bool.false_eq_true, if_false], fun p m run h => by
      have he : ((run ++ [(p.1, p.2)]).length == 17) = true := by simp; (first | lia | omega)
      simp only [he, if_true]
      rfl⟩
theorem ev_display {ps lastP : Prs} {pss : List Prs} {e0 en : List Ent} {ens : List (List Ent)} (ok0 : PairsOk w dp ps e0) (h17 : e0.length = 17) (oks : ChunksOk w dp pss ens) (ok : PairsOk w dp lastP en) (h0 : en ≠ []) (h15 : en.length ≤ 15)
    (F : Full s.tree s.n) (hn : Nat.ble 11 s.n = true) (hp : (hs (e0 ++ ens.flatten ++ en)).Pairwise (· ≠ ·)) (z : e0.length + ens.flatten.length + en.length < sizeLine) :
    Ev w (223 + (330 * ens.length + (6 + 19 * en.length))) (dictDisplay (its ps ++ (itss pss ++ its lastP))) s p (.ref s.n) (lastS s.n en (chunksS s.n ens (subRun s.n e0 (insS s)))) dp := by
  have hp1 : (hs e0).Pairwise (· ≠ ·) := by rw [List.append_assoc, hs_append, List.pairwise_append] at hp; exact hp.1
  obtain ⟨ev, I⟩ := ev_first (w := w) (p := p) ok0 F hn (by (first | lia | omega)) hp1 (by (first | lia | omega))
  rw [h17] at ev
  obtain ⟨f, hf, e⟩ := display_form
  rw [e, gatherFull hf (itss pss ++ its lastP) none ps [] (by intro e; rw [e] at ok0; have := ok0.length; simp at this; (first | lia | omega)) (by rw [ok0.length, h17]; rfl)]
  rw [bind_assoc, bind_assoc, List.nil_append]
  refine Ev.bind ev ?_
  have c := ev_chunks (w := w) (dp := dp) (d := s.n) hf pss ens _ dp e0 lastP en oks I ok h0 h15 hp z
  have c2 := Ev.bind (m := 0) (f := fun m => (match m with | some d => pure (Value.ref d) | none => newDict : Sem Value)) c Ev.pure
  rw [bind_assoc] at c2
  exact c2
end
end Mine
end

section
open PySem PySem.W PyProof.Rows
set_option maxRecDepth 100000
set_option maxHeartbeats 4000000
namespace Mine
noncomputable def prG (env : Env) (pos : Pos) : List (Option Expr) → List Expr → Prs
  | some k :: ks, v :: vs => (eval k env, do let x ← eval v env; standAt pos; pure x) :: prG env pos ks vs
  | _, _ => []
noncomputable def enG : List (Option Expr) → List Expr → List Ent
  | k :: ks, v :: vs => (keyOf k, strOf v) :: enG ks vs
  | _, _ => []
noncomputable def cOk : List (Option Expr) → List Expr → Bool
  | some (.Constant (.int _) _ _) :: ks, (.Constant (.str _) _ _) :: vs => cOk ks vs
  | [], [] => true
  | _, _ => false
theorem items_eq {env : Env} {pos : Pos} : ∀ (ks : List (Option Expr)) (vs : List Expr), cOk ks vs = true → (evalEachOpt ks env).zip ((evalEach vs env).map fun v => do let x ← v; standAt pos; pure x) = its (prG env pos ks vs)
  | [], [], _ => rfl
  | some k :: ks, v :: vs, h => by
    have h' : cOk ks vs = true := by
      unfold cOk at h
      split at h
      · rename_i q1 q2; simp only [List.cons.injEq] at q1 q2; obtain ⟨_, rfl⟩ := q1; obtain ⟨_, rfl⟩ := q2; exact h
      · rename_i q1 q2; cases q1
      · cases h
    show (some (eval k env), _) :: List.zip _ _ = (some _, _) :: its (prG env pos ks vs)
    rw [← items_eq ks vs h']
  | none :: _, _, h => by simp [cOk] at h
  | [], _ :: _, h => by simp [cOk] at h
  | some _ :: _, [], h => by simp [cOk] at h
theorem pairs_ok {w : World} {env : Env} {pos : Pos} : ∀ (ks : List (Option Expr)) (vs : List Expr), cOk ks vs = true → PairsOk w pos (prG env pos ks vs) (enG ks vs)
  | [], [], _ => .nil
  | some (.Constant (.int i) k1 p1) :: ks, (.Constant (.str x) k2 p2) :: vs, h => by
    have h' : cOk ks vs = true := h
    refine .cons ⟨fun s p => ?_, fun s p => ?_⟩ (pairs_ok ks vs h')
    · show Ev w 1 (.fresh fun t => .pure (Value.int i t)) s p _ _ p
      exact Ev.fresh Ev.pure
    · show Ev w 2 (.fresh fun t => .at pos fun _ => .pure (Value.str x t)) s p _ _ pos
      exact Ev.fresh (Ev.at Ev.pure)
  | none :: _, _, h => by simp [cOk] at h
  | [], _ :: _, h => by simp [cOk] at h
  | some _ :: _, [], h => by simp [cOk] at h
  | some k :: _, v :: _, h => by
    unfold cOk at h
    split at h
    · rename_i q1 q2; simp only [List.cons.injEq, Option.some.injEq] at q1 q2
      obtain ⟨rfl, rfl⟩ := q1; obtain ⟨rfl, rfl⟩ := q2
      refine .cons ⟨fun s p => ?_, fun s p => ?_⟩ (pairs_ok _ _ h)
      · show Ev w 1 (.fresh fun t => .pure (Value.int _ t)) s p _ _ p
        exact Ev.fresh Ev.pure
      · show Ev w 2 (.fresh fun t => .at pos fun _ => .pure (Value.str _ t)) s p _ _ pos
        exact Ev.fresh (Ev.at Ev.pure)
    · rename_i q1 q2; cases q1
    · cases h
section
variable {w : World} {dp : Pos}
theorem PairsOk.take {ps : Prs} {en : List Ent} (h : PairsOk w dp ps en) : ∀ n, PairsOk w dp (ps.take n) (en.take n) := by
  induction h with
  | nil => intro n; simpa using PairsOk.nil
  | cons a _ ih => intro n; cases n with
    | zero => exact .nil
    | succ n => exact .cons a (ih n)
theorem PairsOk.drop {ps : Prs} {en : List Ent} (h : PairsOk w dp ps en) : ∀ n, PairsOk w dp (ps.drop n) (en.drop n) := by
  induction h with
  | nil => intro n; simpa using PairsOk.nil
  | cons a b ih => intro n; cases n with
    | zero => exact .cons a b
    | succ n => exact ih n
noncomputable def cutP : Nat → Prs → List Prs
  | 0, _ => []
  | k + 1, ps => ps.take 17 :: cutP k (ps.drop 17)
noncomputable def cutE : Nat → List Ent → List (List Ent)
  | 0, _ => []
  | k + 1, en => en.take 17 :: cutE k (en.drop 17)
theorem cutE_len : ∀ (k : Nat) (en : List Ent), (cutE k en).length = k
  | 0, _ => rfl
  | k + 1, en => by rw [cutE, List.length_cons, cutE_len k]
theorem its_app (a b : Prs) : its (a ++ b) = its a ++ its b := List.map_append ..
theorem cut_its : ∀ (k : Nat) (ps : Prs), itss (cutP k ps) ++ its (ps.drop (17 * k)) = its ps
  | 0, ps => by simp [cutP, itss]
  | k + 1, ps => by
    rw [cutP, itss, List.append_assoc]
    have := cut_its k (ps.drop 17)
    rw [List.drop_drop, show 17 + 17 * k = 17 * (k + 1) by (first | lia | omega)] at this
    rw [this, ← its_app, List.take_append_drop]
theorem cut_flat : ∀ (k : Nat) (en : List Ent), (cutE k en).flatten ++ en.drop (17 * k) = en
  | 0, en => by simp [cutE]
  | k + 1, en => by
    rw [cutE, List.flatten_cons, List.append_assoc]
    have := cut_flat k (en.drop 17)
    rw [List.drop_drop, show 17 + 17 * k = 17 * (k + 1) by (first | lia | omega)] at this
    rw [this, List.take_append_drop]
theorem cut_ok : ∀ (k : Nat) (ps : Prs) (en : List Ent), PairsOk w dp ps en → 17 * k ≤ en.length → ChunksOk w dp (cutP k ps) (cutE k en)
  | 0, _, _, _, _ => .nil
  | k + 1, ps, en, h, hl => .cons (h.take 17) (by rw [List.length_take]; (first | lia | omega)) (cut_ok k _ _ (h.drop 17) (by rw [List.length_drop]; (first | lia | omega)))
end
noncomputable def sortedB : List Int → Bool
  | a :: b :: r => decide (a < b) && sortedB (b :: r)
  | _ => true
theorem sorted_lt : ∀ (l : List Int), sortedB l = true → l.Pairwise (· < ·)
  | [], _ => .nil
  | [a], _ => by simp
  | a :: b :: r, h => by
    obtain ⟨h1, h2⟩ := Bool.and_eq_true_iff.mp h
    have ih := sorted_lt (b :: r) h2
    refine List.pairwise_cons.mpr ⟨fun x hx => ?_, ih⟩
    have hab : a < b := of_decide_eq_true h1
    rcases List.mem_cons.mp hx with rfl | hx
    · exact hab
    · exact Int.lt_trans hab ((List.pairwise_cons.mp ih).1 x hx)
noncomputable def en0 : List Ent := enG b3KV.1 b3KV.2
theorem en0_ok : cOk b3KV.1 b3KV.2 = true := by kernel_rfl
theorem en0_len : en0.length = 650 := by kernel_rfl
theorem en0_sorted : sortedB (hs en0) = true := by kernel_rfl
noncomputable def dp0 : Pos := match stA 16 with
  | .Assign _ (.Dict _ _ q) _ => q
  | _ => q0
noncomputable def runAll (s : SharedT) : SharedT := lastS s.n (en0.drop 646) (chunksS s.n (cutE 37 (en0.drop 17)) (subRun s.n (en0.take 17) (insS s)))
theorem run_is (P : Params) (os : OsState) : runAll (s_15 P os) = s_16a P os := by kernel_rfl
theorem full_of {t : BT} {n : Nat} (h : ((List.range n).all fun i => (t.get i).isSome) = true) : Full t n := fun i hi => List.all_eq_true.mp h i (List.mem_range.mpr hi)
theorem full_15 (P : Params) (os : OsState) : Full (s_15 P os).tree (s_15 P os).n := full_of (by kernel_rfl)
theorem ev_b3 (w : World) (os : OsState) (p : Pos) : Ev w 12515 (dictDisplay ((evalEachOpt b3KV.1 env0).zip ((evalEach b3KV.2 env0).map fun v => do let x ← v; standAt dp0; pure x))) (s_15 w.params os) p (.ref 89) (s_16a w.params os) dp0 := by
  have ok := pairs_ok (w := w) (env := env0) (pos := dp0) b3KV.1 b3KV.2 en0_ok
  have ok' : PairsOk w dp0 (prG env0 dp0 b3KV.1 b3KV.2) en0 := ok
  have hl := en0_len
  have hpw : (hs en0).Pairwise (· ≠ ·) := (sorted_lt _ en0_sorted).imp fun h => Int.ne_of_lt h
  have hsplit : en0.take 17 ++ (cutE 37 (en0.drop 17)).flatten ++ (en0.drop 17).drop (17 * 37) = en0 := by rw [List.append_assoc, cut_flat, List.take_append_drop]
  have d := ev_display (w := w) (p := p) (s := s_15 w.params os) (ok'.take 17) (by rw [List.length_take]; (first | lia | omega)) (cut_ok 37 _ _ (ok'.drop 17) (by rw [List.length_drop]; (first | lia | omega))) ((ok'.drop 17).drop (17 * 37))
    (by intro e; have := congrArg List.length e; rw [List.drop_drop, List.length_drop] at this; simp at this; (first | lia | omega)) (by rw [List.drop_drop, List.length_drop]; (first | lia | omega)) (full_15 _ _) rfl (by rw [hsplit]; exact hpw)
    (by rw [← List.length_append, ← List.length_append, hsplit, hl]; decide)
  rw [cutE_len, List.drop_drop, List.length_drop, hl] at d
  rw [items_eq _ _ en0_ok]
  have e1 : its (prG env0 dp0 b3KV.1 b3KV.2) = its ((prG env0 dp0 b3KV.1 b3KV.2).take 17) ++ (itss (cutP 37 ((prG env0 dp0 b3KV.1 b3KV.2).drop 17)) ++ its (((prG env0 dp0 b3KV.1 b3KV.2).drop 17).drop (17 * 37))) := by
    rw [cut_its, ← its_app, List.take_append_drop]
  rw [e1]
  have r := run_is w.params os
  unfold runAll at r
  rw [r] at d
  exact d
theorem st16 : stA 16 = .Assign [.Name "b3_exceptions" ⟨73, 0, 73, 13⟩] (.Dict b3KV.1 b3KV.2 dp0) ⟨73, 0, 73, dp0.endCol⟩ := by kernel_rfl
theorem ev_bind16 (w : World) (os : OsState) : Ev w 7 (assignAll (Value.ref 89) ((assignEach [.Name "b3_exceptions" ⟨73, 0, 73, 13⟩] env0).map (·.2))) (s_16a w.params os) dp0 () (s_16 w.params os) p_16 := fun _ _ _ _ => by kernel_rfl
theorem ev_16 (w : World) (os : OsState) : Ev w 12524 (execs [stA 16] env0) (s_15 w.params os) p_15 Flow.next (s_16 w.params os) p_16 := by
  rw [st16]
  refine Ev.bind (n := 12524) (m := 0) (a := Flow.next) ?_ Ev.pure
  rw [arm_exec_Assign]
  refine Ev.bind (n := 1) (m := 12523) (a := ()) (s₁ := s_15 w.params os) (p₁ := ⟨73, 0, 73, dp0.endCol⟩) (Ev.at Ev.pure) ?_
  refine Ev.bind (n := 0) (m := 12523) (a := false) (s₁ := s_15 w.params os) (p₁ := ⟨73, 0, 73, dp0.endCol⟩) (fun _ _ _ _ => by rfl) ?_
  rw [if_neg Bool.false_ne_true]
  refine Ev.bind (n := 12516) (m := 7) (a := Value.ref 89) (s₁ := s_16a w.params os) (p₁ := dp0) ?_ ?_
  · rw [arm_eval_Dict]
    exact Ev.bind (n := 1) (m := 12515) (a := ()) (s₁ := s_15 w.params os) (p₁ := dp0) (Ev.at Ev.pure) (ev_b3 w os _)
  · refine Ev.bind (n := 0) (m := 7) (a := none) (s₁ := s_16a w.params os) (p₁ := dp0) (fun _ _ _ _ => by rfl) ?_
    exact Ev.bind (n := 7) (m := 0) (a := ()) (ev_bind16 w os) Ev.pure
theorem segRun_of_go {w : World} : ∀ {n : Nat} {s s' : SharedT} {t : Thread} {f : Flow} {c : Code} {q : Pos} {st : List Frame}, goN w n s t = some (s', ⟨doneF f, c, q, st⟩) → st.length = 1 → segRunT treeTable P0 w 11 ann0 1 (n + 1) s t = some (f, s', c, q)
  | 0, s, s', t, f, c, q, st, h, hl => by
    have : s = s' ∧ t = ⟨doneF f, c, q, st⟩ := by simpa [goN, segGoT] using h
    obtain ⟨rfl, rfl⟩ := this
    unfold segRunT
    have : endAt 1 ⟨doneF f, c, q, st⟩ = some f := by simp [endAt, hl]
    rw [this]
  | n + 1, s, s', t, f, c, q, st, h, hl => by
    unfold goN segGoT at h
    unfold segRunT
    cases he : endAt 1 t with
    | some f => rw [he] at h; cases h
    | none =>
      rw [he] at h
      dsimp only at h ⊢
      cases hk : stepOk 11 ann0 t with
      | false => rw [hk] at h; cases h
      | true =>
        rw [hk] at h
        dsimp only at h ⊢
        cases hs : stepT (denote treeTable) P0 w s t with
        | none => rw [hs] at h; cases h
        | some r => rw [hs] at h; exact segRun_of_go h hl
theorem seg_16 (w : World) (os : OsState) : segRunT treeTable P0 w 11 ann0 1 12525 (s_15 w.params os) (piecesOf [stA 16] env0 c0 p_15 [topFrame q0]) = some (.next, s_16 w.params os, c0, p_16) :=
  segRun_of_go (ev_16 w os _ _ _ _) rfl
end Mine
end

section
open PySem PySem.W PyProof.Rows
set_option maxRecDepth 100000
set_option maxHeartbeats 0
namespace Mine
def asK : List Addr := [2, 3, 15, 17, 18, 20, 21, 22, 24, 25, 27, 28, 29, 31, 32, 34, 35, 36, 38, 39, 41, 42, 43, 45, 46, 48, 49, 50, 52, 53, 55, 56, 57, 59, 60, 62, 63, 64, 66, 67, 69, 70, 78, 82, 84, 85, 87, 88, 89, 128, 130, 131, 133, 134, 135, 137, 138, 140, 141, 142, 144, 145, 147, 148, 149, 151, 152, 154, 155, 156, 159, 160, 161, 164, 165, 166, 168, 169, 171, 172, 173, 175, 176, 178, 179, 180, 183, 184]
-- the written part, as terms: a syntax for each object, read off a sample run
-- an expression as a term, by a stack: no recursion of its own
def stxF (todo : List (Lean.Expr ⊕ (Lean.Name × Nat))) (outs : List Lean.Term) : Lean.MacroM (List (Lean.Expr ⊕ (Lean.Name × Nat)) × List Lean.Term) :=
  match todo with
  | [] => pure ([], outs)
  | .inl (.lit (.natVal n)) :: r => do pure (r, (← `(nat_lit $(Lean.Syntax.mkNatLit n))) :: outs)
  | .inl (.lit (.strVal s)) :: r => pure (r, Lean.Syntax.mkStrLit s :: outs)
  | .inl e :: r => match e.getAppFn with
    | .const n _ => if n == `P then pure (r, (Lean.mkIdent `P : Lean.Term) :: outs) else pure ((e.getAppArgs.toList.map .inl) ++ .inr (n, e.getAppNumArgs) :: r, outs)
    | _ => Lean.Macro.throwUnsupported
  | .inr (n, k) :: r => do
    let as : Array Lean.Term := (outs.take k).reverse.toArray
    pure (r, (← `(@$(Lean.mkCIdent n) $as*)) :: outs.drop k)
def stx (e : Lean.Expr) : Lean.MacroM Lean.Term := do
  let mut s : List (Lean.Expr ⊕ (Lean.Name × Nat)) × List Lean.Term := ([.inl e], [])
  for _ in [0:1000000] do
    if s.1.isEmpty then break
    s ← stxF s.1 s.2
  match s with
  | ([], [t]) => pure t
  | _ => Lean.Macro.throwUnsupported
def finHeap : Heap := match openRun P0 (aWorld 1) (aWorld 1) 400000 with
  | .ok (s, _) => s.heap
  | .error _ => {}
def partStx : Lean.MacroM Lean.Term := do
  let h := finHeap
  let mut ts : Array Lean.Term := #[]
  for a in asK do
    let n : Lean.Term ← `(nat_lit $(Lean.Syntax.mkNatLit a))
    let t : Lean.Term ← if a == 78 then `(setO $(Lean.mkIdent `P)) else if a == 89 then `(b3O) else match h.get? a with
      | some o => stx (objE (Lean.mkConst `P) o)
      | none => Lean.Macro.throwUnsupported
    ts := ts.push (← `(@Prod.mk Nat Obj $n $t))
  let nil : Lean.Term ← `(@List.nil (Nat × Obj))
  ts.foldrM (fun t r => `(@List.cons (Nat × Obj) $t $r)) nil
local macro_rules | `(k_addr% "the part") => partStx
def lawStx : Lean.MacroM Lean.Term := do
  match stA 26 with
  | .FunctionDef n a b _ _ _ sc _ _ p => `((⟨$(← stx (Lean.toExpr n)), $(← stx (Lean.toExpr a)), $(← stx (Lean.toExpr b)), $(← stx (Lean.toExpr sc)), $(← stx (Lean.toExpr p))⟩ : DefRec))
  | _ => Lean.Macro.throwUnsupported
local macro_rules | `(k_addr% "the law") => lawStx
noncomputable abbrev d26 : DefRec := k_addr% "the law"
noncomputable def KK : Params → Frag := fun P => k_addr% "the part"
end Mine
end

section
open PySem PySem.W PyProof.Rows
set_option maxRecDepth 100000
set_option maxHeartbeats 0
namespace Mine
noncomputable section
noncomputable def qv : Program := { P0 with main := { P0.main with body := [stA 26] } }
noncomputable def loose0 : List Str := [Str.ofString "_MAX_STRING_SIZE", Str.ofString "_MOVE_COST", Str.ofString "_CASE_COST", Str.ofString "_substitution_cost", Str.ofString "_levenshtein_distance", Str.ofString "gt", Str.ofString "add", Str.ofString "mul", Str.ofString "sub", Str.ofString "concat", Str.ofString "countOf", Str.ofString "b1_set", Str.ofString "in_table_b1", Str.ofString "b3_exceptions", Str.ofString "map_table_b3", Str.ofString "_law_draws", Str.ofString "_law_unseen", Str.ofString "_law_form", Str.ofString "_law_meant", Str.ofString "_law_typed", Str.ofString "_law_prepared", Str.ofString "_law_above"]
noncomputable def obsK (s : Shared) : List (Option Obj) := asK.map s.heap.get?
noncomputable def valK (w : World) : List (Option Obj) := (KK w.params).map fun p => some p.2
noncomputable def Xt0 : Shared → Bool := fun s => xlAt qv [] s && recOk (RowW.records (OpenLaw.row PySem.Challenge.rw_tl0036_01).toRowW) s
theorem fence0 (s : Shared) : fenceModules? P0 s = some s := by kernel_rfl
theorem open_0 : ∀ w : World, (fencedOpening treeTable P0 w 40000).map (fun s => (s.heap, s.gens, s.drawn, s.toks)) = some (boot_heap w.params, Array.mk [], boot_drawn, boot_toks) := boot_open open0 (by decide) fence0
theorem size_0 (w : World) : ((boot_heap w.params).isNs mainGlobals && (Array.mk [] : Array GenState).size == 0, (boot_heap w.params).objs.size, (boot_heap w.params).nsMap mainGlobals "__annotations__") = (true, 11, ann0) := by kernel_rfl
theorem body_split : body0 = body0.take 14 ++ ([stA 14] ++ ([stA 15] ++ ([stA 16] ++ (body0.drop 17 ++ [])))) := by kernel_rfl
theorem run_0 (w : World) (os : OsState) : topRun treeTable P0 w 11 ann0 (12 + (1 + (310 + (999 + (30 + (12525 + (269 + 2))))))) ⟨boot_heap w.params, Array.mk [], boot_drawn, boot_toks, os⟩ (topStub P0) = some (s_26 w.params os).abs := by
  refine go_top (pre_go w os) (piece_block (block_go w os) ?_)
  rw [body_split]
  refine piece_app (segRun_of (seg_a w os)) ?_
  refine piece_app (segRun_of (seg_14 w os)) ?_
  refine piece_app (segRun_of (seg_15 w os)) ?_
  refine piece_app (segRun_of (seg_16 w os)) ?_
  refine piece_app (segRun_of (seg_z w os)) ?_
  exact piece_nil (fin_go w os)
noncomputable def heap1 (P : Params) : Heap := absHeap (s_26 P default).tree 185 life0
theorem looks_a (w : World) (os : OsState) : (staticsOk (importedModules P0.main.body) (boot_heap w.params) (heap1 w.params) && namesBound P0 (heap1 w.params) && gensDone ⟨heap1 w.params, Array.mk [], drawn0, 2365, os⟩ && laidKept (boot_heap w.params) (heap1 w.params)) = true := by kernel_rfl
theorem looks_b (w : World) (os : OsState) : openSeen qv loose0 (importedModules P0.main.body) Xt0 true ⟨heap1 w.params, Array.mk [], drawn0, 2365, os⟩ = openGood qv loose0 := by kernel_rfl
theorem looks_c (w : World) (os : OsState) : obsK ⟨heap1 w.params, Array.mk [], drawn0, 2365, os⟩ = valK w := by kernel_rfl
theorem left0 : LeftO P0 qv loose0 Xt0 obsK valK 40000 :=
  LeftO.of_pieces (H₀ := boot_heap) (H₁ := heap1) (gs₀ := Array.mk []) (gs₁ := Array.mk []) (d₀ := boot_drawn) (d₁ := drawn0) (k₀ := boot_toks) (k₁ := 2365) (m₀ := 11) (ann := ann0) open_0 size_0 run_0 (by decide)
    (fun w => funext fun os => by rw [looks_a w os, looks_b w os, looks_c w os])
theorem asK_is (P : Params) : asK = (KK P).map (·.1) := by kernel_rfl
theorem hY0 (w : World) (s : Shared) (e : obsK s = valK w) : InK KK w s.heap := InK.of asK_is w s e
end
end Mine
end

section
open PySem PySem.W PyProof.Rows
set_option maxRecDepth 100000
set_option maxHeartbeats 0
namespace Mine
def r0 : OpenRow := OpenLaw.row PySem.Challenge.rw_tl0036_01
theorem def26 : defOf qv r0.name = some (d26, []) := by kernel_rfl
theorem hp26 : r0.prog.theDef r0.name = some (d26.params, d26.body, d26.scope) := by kernel_rfl
theorem hk26 : kwWritten? d26.params.kwonlyargs d26.params.kw_defaults = some [] := by kernel_rfl
theorem ok26 : (chainsOk qv && opensWell r0.prog && (frees r0.toRowW && r0.within.isEmpty)) = true := by decide +kernel
theorem bare26 : r0.prog.bare := ⟨rfl, rfl, rfl, rfl, rfl, by decide +kernel⟩
abbrev Walk0 : Prop := WalkO qv loose0 (XL qv []) (kHook KK asK asK_is).says r0.toRowW d26 [] fun f vs => PySem.call f vs
theorem wsaid : PySem.Challenge.rw_tl0036_01.wellSaid = true := by
  unfold OpenLaw.wellSaid OpenRow.wellSaid OpenRow.partSaid looksOpen
  repeat' (with_reducible refine look_both ?_ ?_)
  all_goals decide +kernel
theorem top0 (T : Walk0) : PySem.Challenge.rw_tl0036_01.Holds := by
  refine holds_law wsaid fun said => ?_
  exact PySem.W.holds_open (r := r0) (q := qv) (loose := loose0) (Xt := Xt0) (XP := XL qv []) (Yf := obsK) (Ya := valK) (YP := (kHook KK asK asK_is).says) (N := 40000) left0 hY0 InK.keeps (fun s e => xl_of s (Bool.and_eq_true_iff.mp e).1) XL.keeps def26 hp26 hk26 (fun s e => recFacts_of (Bool.and_eq_true_iff.mp e).2) rfl (by assumption) ok26 bare26 (by show r0.toRowW.promised; w_witness2) T
end Mine
end

section
open PySem PySem.W PyProof.Rows
set_option maxRecDepth 100000
namespace Mine
noncomputable abbrev Led := List (Addr × Obj)
noncomputable abbrev FMap := Str → Option Value
/-- what a call of the def at f gives back, at any frame of the law's -/
noncomputable abbrev ClN (k : Nat) (w : World) (f : Addr) (vs : List Value) (Post : Value → Led → Prop) : Prop :=
  ∀ (dp un : Nat) (gd : Option (List Code)) (cn : Str) (cs : Scope) (a : Addr) (ccd : Value) (cl : List (Str × Addr)) (outer : List Env) (A₀ : Around) (base h₀ : Heap) (L : Addr) (m : FMap) (news : Led) (s : Shared) (Q E : Value → Shared → Prop)
    (mean : ExcName → Option Value) (mg mb : FMap),
    Below A₀ base outer h₀ → Fr h₀ L s.heap m → (KK w.params).In h₀ → News h₀ L s.heap news → Top qv (looseW qv loose0) mean mg mb h₀ → cs.kind = .function → dp + k < recursionLimit → un + 8 * k < cLine →
    (∀ (v : Value) (new : Led) (h' : Heap) (tk' : Nat), Post v new → Fr h₀ L h' m → News h₀ L h' (new ++ news) → Q v { s with heap := h', toks := tk' }) →
    wpAny (model r0.prog w) (ktrTop dp un gd cn cs L a ccd cl outer) (call (.ref f) vs) Q E s
section
variable {prog : Program} {w : World} {A : Around} {E : Value → Shared → Prop} {s : Shared} {env : Env} {h₀ : Heap} {L : Addr} {Q : Flow → Shared → Prop} {news : Led} {m : FMap}
noncomputable def WStep (h₀ : Heap) (L : Addr) (s : Shared) (J : Nat → FMap → Prop) (news : Led) (n : Nat) (f : Flow) (s₃ : Shared) : Prop :=
  f = .next ∧ ∃ h' tk m₂, s₃ = { s with heap := h', toks := tk } ∧ Fr h₀ L h' m₂ ∧ News h₀ L h' news ∧ ∃ n', n' < n ∧ J n' m₂
noncomputable def WDone (h₀ : Heap) (L : Addr) (s : Shared) (D : FMap → Prop) (news : Led) (s₂ : Shared) : Prop :=
  ∃ h' tk m₂, s₂ = { s with heap := h', toks := tk } ∧ Fr h₀ L h' m₂ ∧ News h₀ L h' news ∧ D m₂
theorem while_cut {test : Expr} {body : List Stmt} {pos : Pos} (J : Nat → FMap → Prop) (D : FMap → Prop) {n₀ : Nat} (F : Fr h₀ L s.heap m) (N : News h₀ L s.heap news) (hJ : J n₀ m)
    (turn : ∀ n m₁ h₁ tk₁, J n m₁ → Fr h₀ L h₁ m₁ → News h₀ L h₁ news → wpAny (model prog w) A (isTrue test env (eval test env)) (fun b s₂ => if b = true then wpAny (model prog w) A (execs body env) (WStep h₀ L s J news n) E s₂ else WDone h₀ L s D news s₂) E { s with heap := h₁, toks := tk₁ })
    (rest : ∀ m₁ h₁ tk₁, D m₁ → Fr h₀ L h₁ m₁ → News h₀ L h₁ news → Q .next { s with heap := h₁, toks := tk₁ })
    (hE : PassesOwn (model prog w) A env E) : wpAny (model prog w) A (exec (.While test body [] pos) env) Q E s := by
  refine wpAny_mono (Q := fun f s' => f = .next ∧ WDone h₀ L s D news s') ?_ (fun f s' h => ?_) fun _ _ e => e
  · refine While_inv2 (fun n m' nx => nx = news ∧ J n m') F N ⟨rfl, hJ⟩ ?_ hE
    rintro n m₁ nx h₁ tk₁ F₁ N₁ ⟨rfl, hj⟩
    refine wpAny_mono (turn n m₁ h₁ tk₁ hj F₁ N₁) (fun b s₂ h₂ => ?_) fun _ _ e => e
    cases b with
    | false => simp only [Bool.false_eq_true, if_false] at h₂ ⊢; exact ⟨trivial, h₂⟩
    | true =>
      simp only [if_true] at h₂ ⊢
      refine wpAny_mono h₂ (fun f s₃ h₃ => ?_) fun _ _ e => e
      obtain ⟨rfl, h', tk, m₂, rfl, F₂, N₂, n', hn, hj₂⟩ := h₃
      exact ⟨h', tk, m₂, nx, n', rfl, F₂, N₂, hn, rfl, hj₂⟩
  · obtain ⟨rfl, h', tk, m₂, rfl, F₂, N₂, hd⟩ := h
    exact rest m₂ h' tk hd F₂ N₂
end
section
variable {prog : Program} {w : World} {A : Around} {E : Value → Shared → Prop} {s : Shared} {env : Env} {h₀ : Heap} {x : Str} {body : List Stmt} {Q : Flow → Shared → Prop} {news : Led}
theorem iter_rangeJ {r : Addr} {a₀ b₀ : Int} {t₀ u₀ v₀ : Tok} {n : Nat} {m₀ : FMap} (J : Nat → FMap → Led → Prop)
    (hh : A.handled = none) (hr : IsRange s.heap r a₀ b₀ 1 t₀ u₀ v₀) (hsmall : Builtin.Range.small a₀ b₀ 1 = true) (hn : Builtin.Range.rangeSize a₀ b₀ 1 = (n : Int)) (F : Fr h₀ env.locals s.heap m₀) (N : News h₀ env.locals s.heap news) (hj : J 0 m₀ news)
    (turn : ∀ i t m₁ nx h tk own, i < n → nx.map (·.1) = news.map (·.1) → OwnOff own (news.map (·.1)) → J i m₁ nx → Fr h₀ env.locals h (fun y => if y = x then some (.int (a₀ + (i : Int)) t) else m₁ y) → News h₀ env.locals h (nx ++ own) →
      wpAny (model prog w) A (execs body env) (InvPostN h₀ env.locals (J (i + 1)) own (news.map (·.1)) { s with heap := h, toks := tk } Q) E { s with heap := h, toks := tk })
    (done : ∀ m₁ nx h tk, J n m₁ nx → Fr h₀ env.locals h m₁ → News h₀ env.locals h nx → Q .next { s with heap := h, toks := tk }) :
    wpAny (model prog w) A (pyIter (.ref r)) (fun it s₂ => LoopAtV prog w A h₀ env x body Q E it s₂) E s := by
  refine wpAny_pyIter_range hr hsmall ?_
  have W : Walks prog w A s.heap.objs.size [s.heap.objs.size] [s.heap.objs.size] n (fun i v => i < n ∧ ∃ t, v = .int (a₀ + i * 1) t)
      (fun i h => IsRangeIter h s.heap.objs.size (a₀ + (i : Nat) * 1) ((n : Int) - (i : Nat)) 1) := (Walks.range hh _ a₀ 1 n).bound
  refine loop_invN J W ?_ ?_ ?_ ?_ (by show IsRangeIter _ _ _ _ _; rw [hn]; simpa using Heap.get?_push_size _ rfl) (F.push _) (fun p hp => ⟨Heap.get?_push_of_some _ (N p hp).1, (N p hp).2⟩) hj ?_ ?_
  · intro hm
    exact absurd F.ns.lt ((List.mem_singleton.mp hm) ▸ Nat.lt_irrefl _)
  · intro b hb
    rw [List.mem_singleton.mp hb]
    exact next_is_new F
  · intro p hp hI
    exact absurd (Heap.lt_size (N p hp).1) ((List.mem_singleton.mp hI) ▸ Nat.lt_irrefl _)
  · intro p hp hI
    exact absurd (Heap.lt_size (N p hp).1) ((List.mem_singleton.mp hI) ▸ Nat.lt_irrefl _)
  · rintro i v m₁ nx h tk own hi ⟨_, t, rfl⟩ hadr ho hj' F' N'
    rw [Int.mul_one] at F'
    exact turn i t m₁ nx h tk own hi hadr ho hj' F' N'
  · exact done
end
end Mine
end

section
open PySem PySem.W PyProof.Rows
set_option maxRecDepth 100000
namespace Mine
theorem str_ext {x y : Str} (h : x.cps.toList = y.cps.toList) : x = y := by
  cases x; cases y; simp at h; simp [h]
theorem item_nn {x : Str} {i : Int} (h0 : 0 ≤ i) (h1 : i < x.length) : Txt.item x i = ⟨#[x.cps.toList.getD i.toNat 0]⟩ := by
  have := item_closes (x := x) ⟨h0, h1⟩
  rw [beq_iff_eq.mp this]
  simp
theorem item_neg {x : Str} {i : Int} (h0 : i < 0) (h1 : -(x.length : Int) ≤ i) : Txt.item x i = ⟨#[x.cps.toList.getD (i + x.length).toNat 0]⟩ := by
  have := item_closes_neg h0 h1 (j := i + x.length) rfl
  rw [beq_iff_eq.mp this]
  simp
theorem slice_from {x : Str} {i : Int} (h0 : 0 ≤ i) (h1 : i ≤ x.length) : (Txt.slice x (some i) none).cps.toList = x.cps.toList.drop i.toNat := by
  have := slice_closes_fromL h0 h1 (b := x.length) rfl
  rw [beq_iff_eq.mp this]
  show List.take _ _ = _
  rw [List.take_of_length_le]
  have : x.cps.toList.length = x.length := by simp [Str.length]
  rw [List.length_drop]
  (first | lia | omega)
theorem slice_to_neg {x : Str} {p : Int} (h0 : p < 0) (h1 : -p ≤ x.length) : (Txt.slice x none (some p)).cps.toList = x.cps.toList.take (x.length - (-p).toNat) := by
  have := slice_closes_to_neg (x := x) h0 (by (first | lia | omega)) (k := p + x.length) rfl
  rw [beq_iff_eq.mp this]
  simp
  congr 1
  (first | lia | omega)
theorem slice_all (x : Str) : (Txt.slice x none none) = x := by
  have e : Txt.slice x none none = Txt.slice x (some 0) none := by
    show StrLaws.sliceText x none none = StrLaws.sliceText x (some 0) none
    unfold StrLaws.sliceText
    rw [StrLaws.sliceIdx_none_lo]
  rw [e]
  exact str_ext ((slice_from (Int.le_refl _) (by (first | lia | omega))).trans rfl)
theorem len_to_neg {x : Str} {p : Int} (h0 : p < 0) (h1 : -p ≤ x.length) : ((Txt.slice x none (some p)).length : Int) = x.length + p := by
  have := slice_to_neg h0 h1
  have e : (Txt.slice x none (some p)).length = (Txt.slice x none (some p)).cps.toList.length := by simp [Str.length]
  rw [e, this, List.length_take]
  have : x.cps.toList.length = x.length := by simp [Str.length]
  (first | lia | omega)
theorem len_from {x : Str} {p : Int} (h0 : 0 ≤ p) (h1 : p ≤ x.length) : ((Txt.slice x (some p) none).length : Int) = x.length - p := by
  have := slice_from h0 h1
  have e : (Txt.slice x (some p) none).length = (Txt.slice x (some p) none).cps.toList.length := by simp [Str.length]
  rw [e, this, List.length_drop]
  have : x.cps.toList.length = x.length := by simp [Str.length]
  (first | lia | omega)
section
variable {prog : Program} {w : World} {A : Around} {E : Value → Shared → Prop} {s : Shared} {env : Env} {h₀ : Heap} {L : Addr} {Q : Flow → Shared → Prop} {news : Led} {m : FMap}
noncomputable def WCut (h₀ : Heap) (L : Addr) (s : Shared) (D : FMap → Prop) (news : Led) (Q : Flow → Shared → Prop) : Flow → Shared → Prop
  | .next, s₂ => WDone h₀ L s D news s₂
  | f, s₂ => Q f s₂
theorem cut_stmt {st : Stmt} (D : FMap → Prop) (news : Led) (_F : Fr h₀ L s.heap m) (h : wpAny (model prog w) A (exec st env) (WCut h₀ L s D news Q) E s)
    (rest : ∀ m₁ h₁ tk₁, D m₁ → Fr h₀ L h₁ m₁ → News h₀ L h₁ news → Q .next { s with heap := h₁, toks := tk₁ }) : wpAny (model prog w) A (exec st env) Q E s := by
  refine wpAny_mono h (fun f s₂ h₂ => ?_) fun _ _ e => e
  cases f <;> first | exact h₂ | (obtain ⟨h', tk, m₂, rfl, F₂, N₂, hd⟩ := h₂; exact rest m₂ h' tk hd F₂ N₂)
end
-- the plain function
noncomputable def postCut (x : Str) (p : Int) : Str := if p = 0 then x else Txt.slice x none (some p)
noncomputable def scL (c a : Nat) : Int := if c = a then 0 else if Txt.lower ⟨#[c]⟩ == Txt.lower ⟨#[a]⟩ then 1 else 2
noncomputable def pmin (a b : Int) : Int := if b < a then b else a
structure LSt where
  d : Int
  r : Int
  mn : Int
  row : List Int
noncomputable def inStep (c a : Nat) (i : Nat) (st : LSt) : LSt :=
  let d := st.row.getD i 0
  let r := pmin (pmin st.r d + 2) (st.d + scL c a)
  ⟨d, r, if r < st.mn then r else st.mn, st.row.set i r⟩
noncomputable def inGo (c : Nat) : List Nat → Nat → LSt → LSt
  | [], _, st => st
  | a :: as, i, st => inGo c as (i + 1) (inStep c a i st)
noncomputable def outGo (A : List Nat) (mx : Int) : List Nat → Nat → List Int → Int → Int
  | [], _, _, r => r
  | c :: cs, j, row, _ =>
    let st := inGo c A 0 ⟨2 * j, 2 * j, 9223372036854775807, row⟩
    if mx < st.mn then mx + 1 else outGo A mx cs (j + 1) st.row st.r
noncomputable def rowA (a : Int) : Nat → List Int
  | 0 => []
  | n + 1 => a :: rowA (a + 2) n
noncomputable abbrev row0 (n : Nat) : List Int := rowA 2 n
noncomputable def levCore (A B : List Nat) (mx : Int) : Int := if mx < ((B.length : Int) - A.length) * 2 then mx + 1 else outGo A mx B 0 (row0 A.length) 0
noncomputable def levTail (A B : List Nat) (mx : Int) : Int :=
  if A.isEmpty || B.isEmpty then 2 * ((A.length : Int) + B.length)
  else if A.length > 40 || B.length > 40 then mx + 1
  else if B.length < A.length then levCore B A mx else levCore A B mx
noncomputable def dropPre : List Nat → List Nat → List Nat × List Nat
  | a :: as, b :: bs => if a = b then dropPre as bs else (a :: as, b :: bs)
  | as, bs => (as, bs)
noncomputable def levL (X Y : List Nat) (mx : Int) : Int :=
  if X = Y then 0 else
    let p := dropPre X Y
    let q := dropPre p.1.reverse p.2.reverse
    levTail q.1.reverse q.2.reverse mx
noncomputable abbrev tl (x : Str) : List Nat := x.cps.toList
noncomputable def levS (x y : Str) (mx : Int) : Int := levL (tl x) (tl y) mx
theorem levS_eq (x : Str) (mx : Int) : levS x x mx = 0 := by simp [levS, levL]
theorem tl_len (x : Str) : (tl x).length = x.length := by simp [tl, Str.length]
theorem tl_emp (x : Str) : (tl x).isEmpty = decide (x.length = 0) := by
  rw [← tl_len]; cases tl x <;> simp
theorem lt_nil {x y : Str} {mx : Int} (h : x.length = 0 ∨ y.length = 0) : levTail (tl x) (tl y) mx = 2 * ((x.length : Int) + y.length) := by
  unfold levTail
  rw [tl_emp, tl_emp, tl_len, tl_len, if_pos (by rcases h with h | h <;> simp [h])]
theorem lt_big {x y : Str} {mx : Int} (h1 : x.length ≠ 0) (h2 : y.length ≠ 0) (h : 40 < x.length ∨ 40 < y.length) : levTail (tl x) (tl y) mx = mx + 1 := by
  unfold levTail
  rw [tl_emp, tl_emp, tl_len, tl_len, if_neg (by simp [h1, h2]), if_pos (by simp; (first | lia | omega))]
theorem lt_swap {x y : Str} {mx : Int} (h1 : x.length ≠ 0) (h2 : y.length ≠ 0) (h3 : x.length ≤ 40) (h4 : y.length ≤ 40) (h : y.length < x.length) : levTail (tl x) (tl y) mx = levCore (tl y) (tl x) mx := by
  unfold levTail
  rw [tl_emp, tl_emp, tl_len, tl_len, if_neg (by simp [h1, h2]), if_neg (by simp; (first | lia | omega)), if_pos h]
theorem lt_keep {x y : Str} {mx : Int} (h1 : x.length ≠ 0) (h2 : y.length ≠ 0) (h3 : x.length ≤ 40) (h4 : y.length ≤ 40) (h : x.length ≤ y.length) : levTail (tl x) (tl y) mx = levCore (tl x) (tl y) mx := by
  unfold levTail
  rw [tl_emp, tl_emp, tl_len, tl_len, if_neg (by simp [h1, h2]), if_neg (by simp; (first | lia | omega)), if_neg (by (first | lia | omega))]
theorem core_big {x y : Str} {mx : Int} (h : mx < ((y.length : Int) - x.length) * 2) : levCore (tl x) (tl y) mx = mx + 1 := by
  unfold levCore
  rw [tl_len, tl_len, if_pos h]
theorem core_out {x y : Str} {mx : Int} (h : ¬ mx < ((y.length : Int) - x.length) * 2) : levCore (tl x) (tl y) mx = outGo (tl x) mx (tl y) 0 (row0 x.length) 0 := by
  unfold levCore
  rw [tl_len, tl_len, if_neg h]
theorem ret_int {a b : Int} {t : Tok} (h : b = a) : ∃ t', ([] : Led) = [] ∧ Value.int a t = Value.int b t' := ⟨t, rfl, by rw [h]⟩
theorem rowA_ints : ∀ (vs : List Value) (a : Int) (n : Nat), vs.length = n → (∀ (j : Nat) (v : Value), vs[j]? = some v → ∃ t, v = .int (a + j * 2) t) → IntsAre vs (rowA a n)
  | [], a, n, e, _ => by
    subst e
    exact IntsAre.nil
  | v :: r, a, n, e, h => by
    subst e
    rw [List.length_cons]
    unfold rowA
    obtain ⟨t, ht⟩ := h 0 v rfl
    have hv : v = .int a t := by rw [ht]; simp
    subst hv
    refine IntsAre.cons _ _ (rowA_ints r (a + 2) r.length rfl fun j v hj => ?_)
    obtain ⟨t', ht'⟩ := h (j + 1) v hj
    refine ⟨t', ht'.trans ?_⟩
    congr 1
    (first | lia | omega)
theorem rowA_len : ∀ (n : Nat) (a : Int), (rowA a n).length = n
  | 0, _ => rfl
  | n + 1, a => by simp [rowA, rowA_len n]
theorem rs2 : ∀ n : Nat, n < 61 → Builtin.Range.small 2 (2 * ((n : Int) + 1)) 2 = true ∧ Builtin.Range.rangeSize 2 (2 * ((n : Int) + 1)) 2 = (n : Int) := by decide +kernel
section
variable {prog : Program} {w : World} {A : Around} {E : Value → Shared → Prop} {s : Shared} {h₀ : Heap} {L r : Addr} {m : FMap} {news : Led} {t₀ u₀ v₀ : Tok} {n : Nat} {Q : Value → Shared → Prop}
theorem list_range2 (hh : A.handled = none) (F : Fr h₀ L s.heap m) (N : News h₀ L s.heap news) (hr : IsRange s.heap r 2 (2 * ((n : Int) + 1)) 2 t₀ u₀ v₀) (hn : n < 61)
    (h : ∀ D us c h' tk, Fr h₀ L h' m → News h₀ L h' ((D, listOf (List.toArray us) c) :: news) → (∀ p ∈ news, p.1 < D) → IntsAre us (row0 n) → Q (.ref D) { s with heap := h', toks := tk }) :
    wpAny (model prog w) A (call (.type "list") [.ref r]) Q E s := by
  refine call_list_range hh hr (rs2 n hn).1 (rs2 n hn).2 (by (first | lia | omega)) fun h' tk acc c hk hD hI => ?_
  have hD' : h'.get? s.heap.objs.size = some (listOf (List.toArray acc.toList) c) := by
    rw [Array.toArray_toList]
    exact hD
  exact h _ acc.toList c h' tk (F.keeps hk) (news_pushed F N hk hD' rfl) (fun p hp => Heap.lt_size (N p hp).1) (rowA_ints _ _ _ (by rw [Array.length_toList]; exact hI.1) fun j v hj => hI.2 j v (by rw [← hj, Array.getElem?_toList]))
end
section
variable {prog : Program} {w : World} {A : Around} {E : Value → Shared → Prop} {s : Shared} {h₀ : Heap} {L D : Addr} {m : FMap} {rest : Led} {vs : List Value} {ns : List Int} {n : Nat} {k : Nat} {x : Int} {t u : Tok}
theorem set_head {Q : Unit → Shared → Prop} (F : Fr h₀ L s.heap m) (N : News h₀ L s.heap ((D, listOf (List.toArray vs) n) :: rest)) (hne : ∀ p ∈ rest, p.1 ≠ D) (hi : IntsAre vs ns) (h1 : k < ns.length) (hz : k < 100)
    (h : ∀ h', Fr h₀ L h' m → News h₀ L h' ((D, listOf (List.toArray (vs.set k (.int x u))) n) :: rest) → IntsAre (vs.set k (.int x u)) (ns.set k x) → Q () { s with heap := h' }) :
    wpAny (model prog w) A (setItem (.ref D) (.int (k : Int) t) (.int x u)) Q E s :=
  ksa_set F N (Upd.head hne) hi (by (first | lia | omega)) (by (first | lia | omega)) (by (first | lia | omega)) (fun h' F' N' hi' _ _ => h h' F' N' hi')
end
section
variable {prog : Program} {w : World} {A : Around} {E : Value → Shared → Prop} {s : Shared} {h₀ : Heap} {L D : Addr} {m : FMap} {rest : Led} {vs : List Value} {ns : List Int} {n : Nat} {k : Int} {x : Int} {t u : Tok}
theorem set_headI {Q : Unit → Shared → Prop} (F : Fr h₀ L s.heap m) (N : News h₀ L s.heap ((D, listOf (List.toArray vs) n) :: rest)) (hne : ∀ p ∈ rest, p.1 ≠ D) (hi : IntsAre vs ns) (h0 : 0 ≤ k) (h1 : k < ns.length) (hz : k < 100)
    (h : ∀ h', Fr h₀ L h' m → News h₀ L h' ((D, listOf (List.toArray (vs.set k.toNat (.int x u))) n) :: rest) → IntsAre (vs.set k.toNat (.int x u)) (ns.set k.toNat x) → Q () { s with heap := h' }) :
    wpAny (model prog w) A (setItem (.ref D) (.int k t) (.int x u)) Q E s :=
  ksa_set F N (Upd.head hne) hi h0 h1 (by (first | lia | omega)) (fun h' F' N' hi' _ _ => h h' F' N' hi')
end
theorem inGo_step {c : Nat} {A : List Nat} {k : Nat} {st : LSt} (hk : k < A.length) : inGo c (A.drop k) k st = inGo c (A.drop (k + 1)) (k + 1) (inStep c (A.getD k 0) k st) := by
  rw [List.drop_eq_getElem_cons hk]
  show inGo c (A.drop (k + 1)) (k + 1) (inStep c _ k st) = _
  rw [List.getD_eq_getElem?_getD, List.getElem?_eq_getElem hk]
  rfl
theorem inGo_done {c : Nat} {A : List Nat} {k : Nat} {st : LSt} (hk : A.length ≤ k) : inGo c (A.drop k) k st = st := by
  rw [List.drop_of_length_le hk]; rfl
theorem outGo_step {A B : List Nat} {mx : Int} {j : Nat} {row : List Int} {r : Int} (hj : j < B.length) : outGo A mx (B.drop j) j row r = (let st := inGo (B.getD j 0) A 0 ⟨2 * j, 2 * j, 9223372036854775807, row⟩; if mx < st.mn then mx + 1 else outGo A mx (B.drop (j + 1)) (j + 1) st.row st.r) := by
  rw [List.drop_eq_getElem_cons hj]
  have e : B.getD j 0 = B[j] := by rw [List.getD_eq_getElem?_getD, List.getElem?_eq_getElem hj]; rfl
  rw [e]
  rfl
theorem outGo_done {A B : List Nat} {mx : Int} {j : Nat} {row : List Int} {r : Int} (hj : B.length ≤ j) : outGo A mx (B.drop j) j row r = r := by
  rw [List.drop_of_length_le hj]; rfl
theorem useCl {k : Nat} {w : World} {f : Addr} {vs : List Value} {Post : Value → Led → Prop} (C : ClN k w f vs Post) {dp un : Nat} {gd : Option (List Code)} {cn : Str} {cs : Scope} {a : Addr} {ccd : Value} {cl : List (Str × Addr)} {outer : List Env} {A₀ : Around} {base h₀ : Heap} {L : Addr} {m : FMap} {news : Led} {s : Shared} {Q E : Value → Shared → Prop} {mean : ExcName → Option Value} {mg mb : FMap}
    (B : Below A₀ base outer h₀) (F : Fr h₀ L s.heap m) (X : (KK w.params).In h₀) (N : News h₀ L s.heap news) (T : Top qv (looseW qv loose0) mean mg mb h₀) (hk : cs.kind = .function) (hd : dp + k < recursionLimit) (hu : un + 8 * k < cLine)
    (hr : ∀ (v : Value) (new : Led) (h' : Heap) (tk' : Nat), Post v new → Fr h₀ L h' m → News h₀ L h' (new ++ news) → Q v { s with heap := h', toks := tk' }) :
    wpAny (model r0.prog w) (ktrTop dp un gd cn cs L a ccd cl outer) (call (.ref f) vs) Q E s :=
  C dp un gd cn cs a ccd cl outer A₀ base h₀ L m news s Q E mean mg mb B F X N T hk hd hu hr
theorem useV {k : Nat} {w : World} {f : Addr} {vs : List Value} {V : Tok → Value} (C : ClN k w f vs fun v new => ∃ t, new = [] ∧ v = V t) {dp un : Nat} {gd : Option (List Code)} {cn : Str} {cs : Scope} {a : Addr} {ccd : Value} {cl : List (Str × Addr)} {outer : List Env} {A₀ : Around} {base h₀ : Heap} {L : Addr} {m : FMap} {news : Led} {s : Shared} {Q E : Value → Shared → Prop} {mean : ExcName → Option Value} {mg mb : FMap}
    (B : Below A₀ base outer h₀) (F : Fr h₀ L s.heap m) (X : (KK w.params).In h₀) (N : News h₀ L s.heap news) (T : Top qv (looseW qv loose0) mean mg mb h₀) (hk : cs.kind = .function) (hd : dp + k < recursionLimit) (hu : un + 8 * k < cLine)
    (hr : ∀ (h' : Heap) (tk' : Nat) (t' : Tok), Fr h₀ L h' m → News h₀ L h' news → Q (V t') { s with heap := h', toks := tk' }) :
    wpAny (model r0.prog w) (ktrTop dp un gd cn cs L a ccd cl outer) (call (.ref f) vs) Q E s := by
  refine useCl C B F X N T hk hd hu ?_
  rintro v new h' tk' ⟨t, rfl, rfl⟩ F' N'
  exact hr h' tk' t F' N'
theorem useB {k : Nat} {w : World} {f : Addr} {vs : List Value} {V : Value} (C : ClN k w f vs fun v new => new = [] ∧ v = V) {dp un : Nat} {gd : Option (List Code)} {cn : Str} {cs : Scope} {a : Addr} {ccd : Value} {cl : List (Str × Addr)} {outer : List Env} {A₀ : Around} {base h₀ : Heap} {L : Addr} {m : FMap} {news : Led} {s : Shared} {Q E : Value → Shared → Prop} {mean : ExcName → Option Value} {mg mb : FMap}
    (B : Below A₀ base outer h₀) (F : Fr h₀ L s.heap m) (X : (KK w.params).In h₀) (N : News h₀ L s.heap news) (T : Top qv (looseW qv loose0) mean mg mb h₀) (hk : cs.kind = .function) (hd : dp + k < recursionLimit) (hu : un + 8 * k < cLine)
    (hr : ∀ (h' : Heap) (tk' : Nat), Fr h₀ L h' m → News h₀ L h' news → Q V { s with heap := h', toks := tk' }) :
    wpAny (model r0.prog w) (ktrTop dp un gd cn cs L a ccd cl outer) (call (.ref f) vs) Q E s := by
  refine useCl C B F X N T hk hd hu ?_
  rintro v new h' tk' ⟨rfl, rfl⟩ F' N'
  exact hr h' tk' F' N'
end Mine
end

section
open PySem PySem.W PyProof.Rows
set_option maxRecDepth 100000
namespace Mine
noncomputable def scStr (x y : Str) : Int := if x == y then 0 else if Txt.lower x == Txt.lower y then 1 else 2
theorem scStr_one (c a : Nat) : scStr ⟨#[c]⟩ ⟨#[a]⟩ = scL c a := by
  unfold scStr scL
  by_cases h : c = a
  · simp [h]
  · simp [h]
theorem scStr_items {x y : Str} {i k : Nat} (hi : i < x.length) (hk : k < y.length) : scStr (Txt.item x (i : Int)) (Txt.item y (k : Int)) = scL ((tl x).getD i 0) ((tl y).getD k 0) := by
  rw [item_nn (by (first | lia | omega)) (by (first | lia | omega)), item_nn (by (first | lia | omega)) (by (first | lia | omega)), scStr_one]
  rfl
set_option maxHeartbeats 4000000 in
theorem sub_ok (w : World) (x y : Str) (tx ty : Tok) (hx : x.length ≤ 1) (hy : y.length ≤ 1) : ClN 2 w 21 [.str x tx, .str y ty] fun v new => ∃ t, new = [] ∧ v = .int (scStr x y) t := by
  delta ClN
  k_fill
  intro dp un gd cn cs a ccd cl outer A₀ base h₀ L m news s Q E mean mg mb B F X N T hk hd hu hret
  refine wpAny_call ?_
  refine' code_def (binds := [(Str.ofString "ch_a", .str x tx), (Str.ofString "ch_b", .str y ty)]) ?k1 ?k2 ?k3 ?k4 ?k5 ?kA ?kF ?kK ?k6 ?k7 ?k8 ?k9 ?kB ?_ ?c2 ?c3 ?c4 ?c5
  k_dflt (( (case k1 => k_asm); (case k2 => k_asm); (case k3 => k_asm); (case k4 => k_asm); (case k5 => k_asm); (case kA => exact rfl); (case kF => exact rfl); (case kK => assumption); (case k6 => k_is); (case k7 => k_is); (case k8 => ktr_room); (case k9 => exact BindsTo.of_eq rfl); (case c5 => decide); (case kB => exact locs rfl); (case c2 => exact rfl); (case c3 => exact rfl); (case c4 => exact rfl); k_whole; intro qg' qL' qh' qFG' qF' qN' qB' qX' qT'; dsimp only [List.reverse, List.reverseAux] at qF'; (try dsimp only); (try k_lift qB'); (try k_fold)))
  k_steps
  · refine hret _ [] _ _ (ret_int ?ze) ?zf ?zn
    case zf => k_asm
    case zn => k_asm
    case ze => exact (if_pos (by assumption))
  · refine hret _ [] _ _ (ret_int ?ze) ?zf ?zn
    case zf => k_asm
    case zn => k_asm
    case ze => exact (if_neg (by simp [*])).trans (if_pos (by assumption))
  · refine hret _ [] _ _ (ret_int ?ze) ?zf ?zn
    case zf => k_asm
    case zn => k_asm
    case ze => exact (if_neg (by simp [*])).trans (if_neg (by simp [*]))
end Mine
end

section
open PySem PySem.W PyProof.Rows
set_option maxRecDepth 100000
namespace Mine
theorem ne_of_beq_false {x y : Str} (h : (x == y) = false) : x ≠ y := by
  rintro rfl; simp at h
noncomputable def Pre (x y : Str) (i : Int) : Prop := 0 ≤ i ∧ i ≤ x.length ∧ i ≤ y.length ∧ ∀ j : Int, 0 ≤ j → j < i → Txt.item x j = Txt.item y j
noncomputable def PreEnd (x y : Str) (i : Int) : Prop := Pre x y i ∧ (i = x.length ∨ i = y.length ∨ Txt.item x i ≠ Txt.item y i)
theorem pre_zero (x y : Str) : Pre x y 0 := ⟨by (first | lia | omega), by (first | lia | omega), by (first | lia | omega), fun j _ _ => by (first | lia | omega)⟩
theorem pre_step {x y : Str} {i : Int} (h : Pre x y i) (hx : i < x.length) (hy : i < y.length) (e : (Txt.item x i == Txt.item y i) = true) : Pre x y (i + 1) :=
  ⟨by have := h.1; (first | lia | omega), by (first | lia | omega), by (first | lia | omega), fun j h0 h1 => by
    by_cases hj : j = i
    · rw [hj]; exact beq_iff_eq.mp e
    · exact h.2.2.2 j h0 (by (first | lia | omega))⟩
noncomputable def Post (x y : Str) (p : Int) : Prop := p ≤ 0 ∧ -p ≤ x.length ∧ -p ≤ y.length ∧ ∀ j : Int, p ≤ j → j < 0 → Txt.item x j = Txt.item y j
noncomputable def PostEnd (x y : Str) (p : Int) : Prop := Post x y p ∧ (-p = x.length ∨ -p = y.length ∨ Txt.item x (p - 1) ≠ Txt.item y (p - 1))
theorem post_zero (x y : Str) : Post x y 0 := ⟨by (first | lia | omega), by (first | lia | omega), by (first | lia | omega), fun j _ _ => by (first | lia | omega)⟩
theorem post_step {x y : Str} {p : Int} (h : Post x y p) (hx : -p < x.length) (hy : -p < y.length) (e : (Txt.item x (p - 1) == Txt.item y (p - 1)) = true) : Post x y (p - 1) :=
  ⟨by have := h.1; (first | lia | omega), by (first | lia | omega), by (first | lia | omega), fun j h0 h1 => by
    by_cases hj : j = p - 1
    · rw [hj]; exact beq_iff_eq.mp e
    · exact h.2.2.2 j (by (first | lia | omega)) h1⟩
theorem one_inj {a b : Nat} (h : (⟨#[a]⟩ : Str) = ⟨#[b]⟩) : a = b := by simpa using h
theorem dropPre_spec : ∀ (n : Nat) (X Y : List Nat), n ≤ X.length → n ≤ Y.length → (∀ j, j < n → X.getD j 0 = Y.getD j 0) → (n = X.length ∨ n = Y.length ∨ X.getD n 0 ≠ Y.getD n 0) → dropPre X Y = (X.drop n, Y.drop n)
  | 0, X, Y, _, _, _, h => by
    cases X with
    | nil => cases Y <;> rfl
    | cons a as =>
      cases Y with
      | nil => rfl
      | cons b bs =>
        have : a ≠ b := by
          rcases h with h | h | h
          · simp at h
          · simp at h
          · simpa using h
        simp [dropPre, this]
  | n + 1, X, Y, hx, hy, he, h => by
    cases X with
    | nil => simp at hx
    | cons a as =>
      cases Y with
      | nil => simp at hy
      | cons b bs =>
        have e : a = b := by simpa using he 0 (by (first | lia | omega))
        subst e
        simp only [dropPre, if_true, List.drop_succ_cons]
        refine dropPre_spec n as bs (by simpa using hx) (by simpa using hy) (fun j hj => by simpa using he (j + 1) (by (first | lia | omega))) ?_
        rcases h with h | h | h
        · exact .inl (by simpa using h)
        · exact .inr (.inl (by simpa using h))
        · exact .inr (.inr (by simpa using h))
theorem pre_drop {x y : Str} {i : Int} (h : PreEnd x y i) : dropPre (tl x) (tl y) = ((tl x).drop i.toNat, (tl y).drop i.toNat) := by
  obtain ⟨⟨h0, h1, h2, h3⟩, h4⟩ := h
  refine dropPre_spec _ _ _ (by rw [tl_len]; (first | lia | omega)) (by rw [tl_len]; (first | lia | omega)) (fun j hj => ?_) ?_
  · have := h3 j (by (first | lia | omega)) (by (first | lia | omega))
    rw [item_nn (by (first | lia | omega)) (by (first | lia | omega)), item_nn (by (first | lia | omega)) (by (first | lia | omega))] at this
    exact one_inj this
  · rw [tl_len, tl_len]
    by_cases c1 : i = x.length
    · exact .inl (by (first | lia | omega))
    by_cases c2 : i = y.length
    · exact .inr (.inl (by (first | lia | omega)))
    refine .inr (.inr fun e => ?_)
    rcases h4 with h | h | h
    · exact c1 h
    · exact c2 h
    · refine h ?_
      rw [item_nn (by (first | lia | omega)) (by (first | lia | omega)), item_nn (by (first | lia | omega)) (by (first | lia | omega)), e]
theorem rev_getD {X : List Nat} {j : Nat} (h : j < X.length) : X.reverse.getD j 0 = X.getD (X.length - 1 - j) 0 := by
  rw [List.getD_eq_getElem?_getD, List.getD_eq_getElem?_getD, List.getElem?_reverse h]
theorem item_rev {x : Str} {j : Nat} (h : j < x.length) : Txt.item x (-(j : Int) - 1) = ⟨#[(tl x).reverse.getD j 0]⟩ := by
  rw [item_neg (by (first | lia | omega)) (by (first | lia | omega)), rev_getD (by rw [tl_len]; exact h), tl_len]
  congr 4
  (first | lia | omega)
theorem post_drop {x y : Str} {p : Int} (h : PostEnd x y p) : dropPre (tl x).reverse (tl y).reverse = ((tl x).reverse.drop (-p).toNat, (tl y).reverse.drop (-p).toNat) := by
  obtain ⟨⟨h0, h1, h2, h3⟩, h4⟩ := h
  refine dropPre_spec _ _ _ (by rw [List.length_reverse, tl_len]; (first | lia | omega)) (by rw [List.length_reverse, tl_len]; (first | lia | omega)) (fun j hj => ?_) ?_
  · have := h3 (-(j : Int) - 1) (by (first | lia | omega)) (by (first | lia | omega))
    rw [item_rev (by (first | lia | omega)), item_rev (by (first | lia | omega))] at this
    exact one_inj this
  · rw [List.length_reverse, List.length_reverse, tl_len, tl_len]
    by_cases c1 : -p = x.length
    · exact .inl (by (first | lia | omega))
    by_cases c2 : -p = y.length
    · exact .inr (.inl (by (first | lia | omega)))
    refine .inr (.inr fun e => ?_)
    rcases h4 with h | h | h
    · exact c1 h
    · exact c2 h
    · refine h ?_
      have hp : p - 1 = -(((-p).toNat : Nat) : Int) - 1 := by (first | lia | omega)
      rw [hp, item_rev (by (first | lia | omega)), item_rev (by (first | lia | omega)), e]
theorem tl_cut {x : Str} {p : Int} (h0 : p ≤ 0) (h1 : -p ≤ x.length) : ((tl x).reverse.drop (-p).toNat).reverse = tl (postCut x p) := by
  rw [List.drop_reverse, List.reverse_reverse, tl_len]
  unfold postCut
  by_cases hp : p = 0
  · subst hp
    rw [if_pos rfl]
    exact List.take_of_length_le (by rw [tl_len]; simp)
  · rw [if_neg hp]
    exact (slice_to_neg (by (first | lia | omega)) h1).symm
theorem lev_red {x y : Str} {i p : Int} {mx : Int} (hne : x ≠ y) (h : PreEnd x y i) (h' : PostEnd (Txt.slice x (some i) none) (Txt.slice y (some i) none) p) :
    levS x y mx = levTail (tl (postCut (Txt.slice x (some i) none) p)) (tl (postCut (Txt.slice y (some i) none) p)) mx := by
  have e1 : (tl x).drop i.toNat = tl (Txt.slice x (some i) none) := (slice_from h.1.1 h.1.2.1).symm
  have e2 : (tl y).drop i.toNat = tl (Txt.slice y (some i) none) := (slice_from h.1.1 h.1.2.2.1).symm
  unfold levS levL
  rw [if_neg (fun e => hne (str_ext e))]
  simp only []
  rw [pre_drop h]
  simp only [e1, e2]
  rw [post_drop h']
  simp only []
  rw [tl_cut h'.1.1 h'.1.2.1, tl_cut h'.1.1 h'.1.2.2.1]
theorem cut_len {x : Str} {p : Int} (h0 : p ≤ 0) (h1 : -p ≤ x.length) : (postCut x p).length ≤ x.length := by
  unfold postCut
  by_cases hp : p = 0
  · rw [if_pos hp]; exact Nat.le_refl _
  · rw [if_neg hp]
    have := len_to_neg (x := x) (p := p) (by (first | lia | omega)) h1
    (first | lia | omega)
end Mine
end

section
open PySem PySem.W PyProof.Rows
set_option maxRecDepth 100000
namespace Mine
section
variable {prog : Program} {w : World} {A : Around} {E : Value → Shared → Prop} {s : Shared} {env : Env} {h₀ : Heap} {x : Str} {body : List Stmt} {Q : Flow → Shared → Prop} {news : Led}
theorem iter_strJ {y : Str} {t₀ : Tok} {m₀ : FMap} (J : Nat → FMap → Led → Prop)
    (hh : A.handled = none) (F : Fr h₀ env.locals s.heap m₀) (N : News h₀ env.locals s.heap news) (hj : J 0 m₀ news)
    (turn : ∀ i c t m₁ nx h tk own, y.cps[i]? = some c → nx.map (·.1) = news.map (·.1) → OwnOff own (news.map (·.1)) → J i m₁ nx → Fr h₀ env.locals h (fun z => if z = x then some (.str ⟨#[c]⟩ t) else m₁ z) → News h₀ env.locals h (nx ++ own) →
      wpAny (model prog w) A (execs body env) (InvPostN h₀ env.locals (J (i + 1)) own (news.map (·.1)) { s with heap := h, toks := tk } Q) E { s with heap := h, toks := tk })
    (done : ∀ m₁ nx h tk, J y.cps.size m₁ nx → Fr h₀ env.locals h m₁ → News h₀ env.locals h nx → Q .next { s with heap := h, toks := tk }) :
    wpAny (model prog w) A (pyIter (.str y t₀)) (fun it s₂ => LoopAtV prog w A h₀ env x body Q E it s₂) E s := by
  have main : ∀ (cls : String), (∀ I, Walks prog w A I [I] [I] y.cps.size (SignAt y) (fun i h => h.IsStrIter I cls y t₀ i)) →
      LoopAtV prog w A h₀ env x body Q E (.ref s.heap.objs.size) { s with heap := s.heap.push { cls := .type cls, data := .fields #[.str y t₀, .int 0 0] } } := by
    intro cls W
    refine loop_invN J (W s.heap.objs.size) ?_ ?_ ?_ ?_ ⟨_, Heap.get?_push_size _ rfl, rfl, rfl⟩ (F.push _) (fun p hp => ⟨Heap.get?_push_of_some _ (N p hp).1, (N p hp).2⟩) hj ?_ ?_
    · intro hm
      exact absurd F.ns.lt ((List.mem_singleton.mp hm) ▸ Nat.lt_irrefl _)
    · intro b hb
      rw [List.mem_singleton.mp hb]
      exact next_is_new F
    · intro p hp hI
      exact absurd (Heap.lt_size (N p hp).1) ((List.mem_singleton.mp hI) ▸ Nat.lt_irrefl _)
    · intro p hp hI
      exact absurd (Heap.lt_size (N p hp).1) ((List.mem_singleton.mp hI) ▸ Nat.lt_irrefl _)
    · rintro i v m₁ nx h tk own hi ⟨c, t, hc, rfl⟩ hadr ho hj' F' N'
      exact turn i c t m₁ nx h tk own hc hadr ho hj' F' N'
    · exact done
  refine wpAny_pyIter_strU ?_
  cases ha : y.cps.all (· < 128)
  · rw [show strIterType y = "str_iterator" by simp [strIterType, ha]]
    exact main _ fun I => Walks.strWide hh I y t₀
  · rw [show strIterType y = "str_ascii_iterator" by simp [strIterType, ha]]
    exact main _ fun I => Walks.strAscii hh I y t₀
end
section
variable {prog : Program} {w : World} {A : Around} {E : Value → Shared → Prop} {s : Shared} {h₀ : Heap} {L D : Addr} {m : FMap} {rest : Led} {vs : List Value} {ys : List Str} {n : Nat} {x : Value} {y : Str} {t : Tok} {Q : Value → Shared → Prop}
theorem append_head (F : Fr h₀ L s.heap m) (N : News h₀ L s.heap ((D, listOf (List.toArray vs) n) :: rest)) (hne : ∀ p ∈ rest, p.1 ≠ D) (hz : vs.length ≤ 1000)
    (h : ∀ h', Fr h₀ L h' m → News h₀ L h' ((D, listOf (List.toArray (vs ++ [x])) (n + 1)) :: rest) → Q .none { s with heap := h' }) : wpAny (model prog w) A (call (.builtin "list.append") [.ref D, x]) Q E s :=
  append_K F N (Upd.head hne) (fun h' F' N' => h h' F' (by rw [List.push_toArray] at N'; exact N')) (by rw [List.size_toArray, sizeLine_eq]; (first | lia | omega))
theorem join_head (N : News h₀ L s.heap ((D, listOf (List.toArray vs) n) :: rest)) (hi : StrsAre vs ys) (hok : (ys.map (·.length)).sum + ys.length * y.length ≤ 16777216)
    (h : ∀ t' k, Q (.str (Txt.join y ys) t') { s with toks := k }) : wpAny (model prog w) A (call (.builtin "str.join") [.str y t, .ref D]) Q E s :=
  join_list (PySem.IsL.isList (n := n) (N _ (List.mem_cons_self ..)).1) (by simpa using hi) hok h
end
theorem tl_append (a b : Str) : tl (a ++ b) = tl a ++ tl b := by
  show (a.cps ++ b.cps).toList = _
  simp [tl]
theorem tl_join : ∀ ys : List Str, tl (Txt.join (Str.ofString "") ys) = ys.flatMap tl := by
  intro ys
  show tl (Builtin.Str.glued _ ys) = _
  rw [StrLaws.glued_eq_join]
  have e : tl (Str.ofString "") = [] := by decide
  have go : ∀ ys : List Str, tl (Str.join (Str.ofString "") ys) = ys.flatMap tl := by
    intro ys
    induction ys with
    | nil => rfl
    | cons a r ih =>
      cases r with
      | nil => simp [Str.join]
      | cons b r =>
        show tl (a ++ Str.ofString "" ++ Str.join _ (b :: r)) = _
        rw [tl_append, tl_append, e, ih]
        simp
  exact go ys
end Mine
end

section
open PySem PySem.W PyProof.Rows
set_option maxRecDepth 100000
namespace Mine
section
variable {prog : Program} {w : World} {A : Around} {E : Value → Shared → Prop} {s : Shared} {a b c : Int} {t u : Tok} {Q : Value → Shared → Prop}
theorem mod_known (e : Int.fmod a b = c) (hb : b ≠ 0) (h : ∀ t k, Q (.int c t) { s with toks := k }) : wpAny (model prog w) A (binaryOp .Mod (.int a t) (.int b u)) Q E s := by
  subst e
  exact PyProof.Rows.mod_int hb (h _ _)
end
section
variable {prog : Program} {w : World} {A : Around} {E : Value → Shared → Prop} {s : Shared} {h₀ : Heap} {L D : Addr} {rest : Led} {n : Nat} {k : Int} {u : Tok} {v : Value} {l : List Value} {value slice : Expr} {Q : Value → Shared → Prop}
theorem item_head (N : News h₀ L s.heap ((D, listOf (List.toArray l) n) :: rest)) (h0 : 0 ≤ k) (hhi : k < 2 ^ 63) (hx : l[k.toNat]? = some v) (h : Q v s)
    (hs : subscripted slice false (.ref D) (.int k u) = operate [.ref D, .int k u] (getItem (.ref D) (.int k u)) := by with_unfolding_all rfl) : wpAny (model prog w) A (subscriptTail value slice (.ref D) (.int k u)) Q E s :=
  have hL := PySem.IsL.isList (n := n) (N _ (List.mem_cons_self ..)).1
  tail_any hL.typeIs slot_list_getitem.lookup (wpAny_getItem_list hL h0 hhi (by simpa using hx) h) hs
end
end Mine
end

section
open PySem PySem.W PyProof.Rows PyProof.Rows.LCg
set_option maxRecDepth 100000
namespace Mine
section
variable {prog : Program} {w : World} {A : Around} {E : Value → Shared → Prop} {s : Shared} {h₀ : Heap} {L : Addr} {m : FMap} {env : Env}
theorem str_st {y : Str} {t : Tok} {I : Addr} {cls : String} : ∀ i (h h' : Heap) (o : Obj) (nw : Led), h.IsStrIter I cls y t i → h.get? I = some o → h'.get? I = some o → (∀ b o, h₀.get? b = some o → h'.get? b = some o) → News h₀ L h' nw → True → h'.IsStrIter I cls y t i :=
  fun i h h' o nw st e e' _ _ _ => by obtain ⟨o', q, r⟩ := st; rw [e] at q; cases q; exact ⟨o, e', r⟩
theorem ListComp_S {elt iter : Expr} {x : Str} {px : Pos} {scope : Scope} {cl : List (Str × Addr)} {pos : Pos} {Q : Value → Shared → Prop} (F₀ : Fr h₀ L s.heap m)
    (hclos : closureFor scope env = pure cl) (hcell : ∀ y ∈ scope.names, y.2 ≠ .cell) (hkind : scope.kind = .function)
    (hnames : ∀ y ∈ scope.names, y.2 = .local → scope.names.lookup y.1 = some .local) (hx : scope.names.lookup x = some .local)
    (h : wpAny (model prog w) A (eval iter env) (fun xv s₁ => ∃ y t news, xv = .str y t ∧ A.handled = none ∧ Fr h₀ L s₁.heap m ∧ News h₀ L s₁.heap news ∧ y.cps.size ≤ sizeLine ∧
      ∀ s₂ : Shared, (∃ h, s₂ = { s₁ with heap := h }) → CompRest prog w A h₀ L m env elt x scope cl s₂ (fun _ => True) (SignAt y) (FinE h₀ L m s₂ Q) y.cps.size 0 [] news) E s)
    (hs : ∀ x, foldedSetIterable iter env x = pure x := by intro _; rfl) :
    wpAny (model prog w) A (eval (.ListComp elt [⟨.Name x px, iter, [], 0⟩] scope pos) env) Q E s := by
  rw [eval_ListComp]
  refine wpAny_comprehension_free (use := none) rfl hs hclos hkind hnames (wpAny_mono h (fun xv s₁ h₁ => ?_) fun _ _ e => e)
  obtain ⟨y, t, news, rfl, hh, F, N, hsz, R⟩ := h₁
  obtain ⟨cls, hc, W⟩ : ∃ cls, strIterType y = cls ∧ ∀ I, Walks prog w A I [I] [I] y.cps.size (SignAt y) (fun i h => h.IsStrIter I cls y t i) := by
    cases ha : y.cps.all (· < 128)
    · exact ⟨_, by simp [strIterType, ha], fun I => Walks.strWide hh I y t⟩
    · exact ⟨_, by simp [strIterType, ha], fun I => Walks.strAscii hh I y t⟩
  refine wpAny_pyIter_strU ?_
  rw [hc]
  refine block_U (S := fun _ => True) (W s₁.heap.objs.size) hsz (fun i h st => by obtain ⟨o, e, _⟩ := st; exact ⟨o, e⟩) str_st hcell hkind hx ⟨_, Heap.get?_push_size _ rfl, rfl, rfl⟩ (fun b hb => ?_)
    (F.keeps fun _ _ e => Heap.get?_push_of_some _ e) (N.grown fun _ _ e => Heap.get?_push_of_some _ e) (Nat.ne_of_lt F.ns.lt) (next_is_new F) (fun p hp => Nat.ne_of_lt (Heap.lt_size (N p hp).1)) trivial (R _ ⟨_, rfl⟩) ?_
  · rw [List.mem_singleton.mp hb]
    show s₁.heap.objs.size < (s₁.heap.push _).objs.size
    rw [Heap.size_push]; exact Nat.lt_succ_self _
  · intro D C h tk m' ys news' F' N' o1 hn hC₀ hD₀ hCL hDL hCD offC fin
    refine ⟨m', hn, fun h'' hs'' => fin D h'' tk (F'.change hs'' hCL hC₀) (fun p hp => ?_) o1⟩
    refine ⟨hs''.extBut _ _ ?_ (N' p hp).1, (N' p hp).2⟩
    rcases List.mem_cons.mp hp with rfl | hp
    · exact Ne.symm hCD
    · exact offC p hp
end
end Mine
end

section
open PySem PySem.W PyProof.Rows
set_option maxRecDepth 100000
namespace Mine
theorem star_lc {a : Expr} {b : List Comprehension} {c : Scope} {d : Pos} {rest : List Expr} {env : Env} : starEach (.ListComp a b c d :: rest) env = (false, eval (.ListComp a b c d) env) :: starEach rest env := by rfl
section
variable {M : Model} {A : Around} {E : Value → Shared → Prop} {s : Shared} {env : Env}
theorem toks_any {α : Type} {t : Sem α} {Q : α → Shared → Prop} {X : Nat} (H : ∀ k, wpAny M A t Q E { s with toks := k }) : wpAny M A t Q E { s with toks := X } := H X
theorem method1_lc {pos : Pos} {id : String} {first : List Value} {a : Expr} {b : List Comprehension} {c : Scope} {d : Pos} {Q : Value → Shared → Prop}
    (h : wpAny M A (eval (.ListComp a b c d) env) (fun v s₁ => wpAny M A (call (.builtin id) (first ++ [v])) Q E s₁) E s) :
    wpAny M A (callWith pos (.builtin id) first (backTo pos (starEach [.ListComp a b c d] env)) []) Q E s :=
  callWith_method1 (spliced_more (wpAny_mono h (fun _ _ h => spliced_none h) fun _ _ e => e) star_lc) star_lc rfl
end
section
variable {prog : Program} {w : World} {A : Around} {E : Value → Shared → Prop} {s : Shared} {env : Env} {h₀ : Heap} {L : Addr} {Q : Flow → Shared → Prop} {news : Led} {m : FMap}
theorem cut_set {st : Stmt} (x : Str) (v : Tok → Value) (F : Fr h₀ L s.heap m) (_N : News h₀ L s.heap news) (h : wpAny (model prog w) A (exec st env) (WCut h₀ L s (fun m₁ => ∃ t, ∀ z, m₁ z = if z = x then some (v t) else m z) news Q) E s)
    (rest : ∀ t h₁ tk₁, Fr h₀ L h₁ (fun z => if z = x then some (v t) else m z) → News h₀ L h₁ news → Q .next { s with heap := h₁, toks := tk₁ }) : wpAny (model prog w) A (exec st env) Q E s := by
  refine cut_stmt _ news F h ?_
  rintro m₁ h₁ tk₁ ⟨t, e⟩ F₁ N₁
  obtain rfl : m₁ = fun z => if z = x then some (v t) else m z := funext e
  exact rest t h₁ tk₁ F₁ N₁
end
theorem set_doneA {x X Y : Str} {t' : Tok} {m : FMap} (h : Y = X) : ∃ t, ∀ z, (fun z => if z = x then some (Value.str X t') else m z) z = if z = x then some (.str Y t) else m z := ⟨t', fun z => by rw [h]⟩
theorem set_doneB {x X Y : Str} {t' : Tok} {m : FMap} (h : Y = X) : ∃ t, ∀ z, (fun z => if z = x then some (Value.str X t') else m z) z = if z = x then some (.str Y t) else (if z = x then some (Value.str X t') else m z) := ⟨t', fun z => by
  subst h
  by_cases e : z = x
  · simp only [if_pos e]
  · simp only [if_neg e]⟩
end Mine
end

section
open PySem PySem.W PyProof.Rows
set_option maxRecDepth 100000
namespace Mine
theorem entry_hasattr : entryFor table "hasattr" = some Builtin.«hasattr» := entryFor_of_tree (by kernel_rfl)
theorem kind_hasattr : builtinKind "hasattr" = none := by decide +kernel
theorem plain_hasattr : plainId "hasattr" = true := by decide +kernel
theorem args_hasattr2 (a b : Value) : argsOk "hasattr" ⟨[a, b], []⟩ := by unfold argsOk; kernel_rfl
theorem lk_str_getitem : typeLookup (.type "str") "__getitem__" = pure (some (.builtin "str.__getitem__")) := by rw [typeLookup_type, builtinLookup_eq_fast]; kernel_rfl
theorem ty_getitem : typeOf (.builtin "str.__getitem__") = pure (.type "wrapper_descriptor") := by kernel_rfl
theorem slot_wd_get : Slot "wrapper_descriptor" "__get__" "wrapper_descriptor.__get__" :=
  .of (owner := "wrapper_descriptor") (n := "__get__") (by rw [typeLookup_type, builtinLookup_eq_fast]; kernel_rfl) (by decide +kernel) (by decide +kernel) (by decide +kernel)
    (by first | exact .inl (by decide +kernel) | exact .inr (by decide +kernel)) (by rw [isSubtype_type]; kernel_rfl)
theorem lk_wd_set : typeLookup (.type "wrapper_descriptor") "__set__" = pure none := by rw [typeLookup_type, builtinLookup_eq_fast]; kernel_rfl
theorem lk_wd_del : typeLookup (.type "wrapper_descriptor") "__delete__" = pure none := by rw [typeLookup_type, builtinLookup_eq_fast]; kernel_rfl
theorem entry_wd_get : entryFor table "wrapper_descriptor.__get__" = some Builtin.«wrapper_descriptor.__get__» := entryFor_of_tree (by kernel_rfl)
theorem args_wd_get (a b c : Value) : argsOk "wrapper_descriptor.__get__" ⟨[a, b, c], []⟩ := by unfold argsOk; kernel_rfl
theorem owner_getitem : (".".intercalate ("str.__getitem__".cutAt '.').dropLast) = "str" := by
  have e0 : "str.__getitem__".cutAt '.' = ["str", "__getitem__"] := by first | rfl | decide +kernel
  rw [e0]; decide +kernel
theorem sub_getitem : isSubtype (.type "str") (.type (".".intercalate ("str.__getitem__".cutAt '.').dropLast)) = pure true := by
  rw [owner_getitem, isSubtype_type]; kernel_rfl
section
variable {prog : Program} {w : World} {A : Around} {E : Value → Shared → Prop} {h : Heap} {g : Array GenState} {d : Drawn} {t : Nat} {os : OsState} {x : Str} {u tk : Tok}
set_option maxHeartbeats 0 in
theorem getitem_get {R : Result → Shared → Prop} (hq : ∀ o k, R (.ok (.ret (.ref h.objs.size))) ⟨h.push o, g, d, k, os⟩) :
    codeAny (model prog w) A (.call (.builtin "wrapper_descriptor.__get__") ⟨[.builtin "str.__getitem__", .str x u, .type "str"], []⟩) R ⟨h, g, d, t, os⟩ := by
  have hT : (⟨h, g, d, t, os⟩ : Shared).TypeIs (.str x u) "str" := rfl
  have hT5 : (⟨h, g, d, t, os⟩ : Shared).TypeIs (.builtin "str.__getitem__") "wrapper_descriptor" := ty_getitem
  refine codeAny_call_builtin slot_wd_get.plain entry_wd_get (slot_wd_get.check _ _ _ _ _ _ _ _ hT5 (args_wd_get _ _ _) ?_)
  have f8 := sub_getitem
  repeat (any_goals (first | assumption | (exact hq _ _) | wp_step))
  all_goals trace_state
set_option maxHeartbeats 0 in
theorem getitem_entry {tk : Tok} {Q : Fin → Shared → Prop} (hq : ∀ o k, Q (.done (.ret (.ref h.objs.size))) ⟨h.push o, g, d, k, os⟩) :
    wpAny (model prog w) A (Builtin.«object.__getattribute__» ⟨[.str x u, .str (Str.ofString "__getitem__") tk], []⟩) Q E ⟨h, g, d, t, os⟩ := by
  have hT : (⟨h, g, d, t, os⟩ : Shared).TypeIs (.str x u) "str" := rfl
  have f4 := lk_str_getitem
  have f5 := ty_getitem
  have f6 := slot_wd_get.lookup
  have f7 := lk_wd_set
  have f8 := lk_wd_del
  repeat (any_goals (first | assumption | wp_step))
  refine getitem_get fun o k => ?_
  repeat (any_goals (first | assumption | (exact hq _ _) | wp_step))
theorem getitem_call {tk : Tok} {R : Result → Shared → Prop} (hq : ∀ o k, R (.ok (.ret (.ref h.objs.size))) ⟨h.push o, g, d, k, os⟩) :
    codeAny (model prog w) A (.call (.builtin "object.__getattribute__") ⟨[.str x u, .str (Str.ofString "__getitem__") tk], []⟩) R ⟨h, g, d, t, os⟩ :=
  codeAny_call_builtin F.slot_str_getattribute.plain F.entry_object_getattribute (F.slot_str_getattribute.check _ _ _ _ _ _ _ _ (show (⟨h, g, d, t, os⟩ : Shared).TypeIs (.str x u) "str" from rfl) (F.args_object_getattribute_2 _ _) (getitem_entry hq))
set_option maxHeartbeats 0 in
theorem hasattr_getitem {Q : Value → Shared → Prop} (hq : ∀ o k, Q (.bool true) ⟨h.push o, g, d, k, os⟩) : wpAny (model prog w) A (call (.builtin "hasattr") [.str x u, .str (Str.ofString "__getitem__") tk]) Q E ⟨h, g, d, t, os⟩ := by
  have hT : (⟨h, g, d, t, os⟩ : Shared).TypeIs (.str x u) "str" := rfl
  have f2 := F.slot_str_getattribute.lookup
  have f3 := F.slot_str_getattribute.bind (.str x u)
  have f4 := lk_str_getitem
  refine Calls.call_function_entry kind_hasattr plain_hasattr entry_hasattr (args_hasattr2 _ _) ?_
  unfold Builtin.«hasattr»
  repeat (any_goals (first | assumption | wp_step))
  refine getitem_call fun o k => ?_
  repeat (any_goals (first | assumption | wp_step))
  exact ⟨_, rfl, hq _ _⟩
end
end Mine
end

section
open PySem PySem.W PyProof.Rows
set_option maxRecDepth 100000
namespace Mine
theorem runs_toks {M : Model} {Γ : Ctx} {p : Pos} {t : Sem Fin} {fs : List Frame} {s s' : Shared} {e : End} (h : Runs M Γ p t fs s e s') : s.toks ≤ s'.toks := by
  induction h <;> first
    | assumption
    | exact Nat.le_refl _
    | (first | lia | omega)
    | (simp only [Shared.setGen] at *; (first | lia | omega))
theorem wakes_toks {M : Model} {Γ : Ctx} {p : Pos} {g : Nat} {r : Resume} {s s' : Shared} {res : GenResult} (h : Wakes M Γ p g r s res s') : s.toks ≤ s'.toks := by
  unfold Wakes at h
  repeat' split at h
  · exact h.elim
  · obtain ⟨e, s₁, h, _, _, rfl⟩ := h; exact (runs_toks h : (s.setGen g .running).toks ≤ s₁.toks)
  · obtain ⟨_, rfl⟩ := h; exact Nat.le_refl _
  · obtain ⟨_, rfl⟩ := h; exact Nat.le_refl _
  · obtain ⟨e, s₁, h, _, _, rfl⟩ := h; exact (runs_toks h : (s.setGen g .running).toks ≤ s₁.toks)
  · obtain ⟨_, rfl⟩ := h; exact Nat.le_refl _
  · obtain ⟨_, rfl⟩ := h; exact Nat.le_refl _
theorem wp_toks {α : Type} {M : Model} {n : Nat} (t : Sem α) : ∀ {Γ : Ctx} {Q : α → Pos → Shared → Prop} {E : Value → Pos → Shared → Prop} {p : Pos} {s : Shared}, n ≤ s.toks →
    Sem.wp M Γ t (fun a p' s' => n ≤ s'.toks → Q a p' s') E p s → Sem.wp M Γ t Q E p s := by
  induction t with
  | pure a => intro _ _ _ _ _ hn h; exact h hn
  | raise e => intro _ _ _ _ _ hn h; exact h
  | unsupported w => intro _ _ _ _ _ hn h; exact h
  | finish w => intro _ _ _ _ _ hn h; exact h
  | rule t k ih => intro _ _ _ _ _ hn h; rw [Sem.wp] at h ⊢; exact ih _ hn h
  | «at» t k ih => intro _ _ _ _ _ hn h; rw [Sem.wp] at h ⊢; exact ih _ hn h
  | load a b k ih => intro _ _ _ _ _ hn h; rw [Sem.wp] at h ⊢; obtain ⟨o, e, h⟩ := h; exact ⟨o, e, ih _ hn h⟩
  | update a b f k ih => intro _ _ _ _ _ hn h; rw [Sem.wp] at h ⊢; exact ⟨h.1, ih _ (by exact hn) h.2⟩
  | alloc o k ih => intro _ _ _ _ _ hn h; rw [Sem.wp] at h ⊢; exact ih _ (by exact hn) h
  | loadIfAlive a k ih => intro _ _ _ _ _ hn h; rw [Sem.wp] at h ⊢; exact ih _ hn h
  | point l k ih => intro _ _ _ _ _ hn h; rw [Sem.wp] at h ⊢; exact ih _ hn h
  | register l k ih => intro _ _ _ _ _ hn h; rw [Sem.wp] at h; exact h.elim
  | fresh k ih => intro _ _ _ _ _ hn h; rw [Sem.wp] at h ⊢; exact ih _ (Nat.le_succ_of_le hn) h
  | ask k ih => intro _ _ _ _ _ hn h; rw [Sem.wp] at h ⊢; exact ih _ hn h
  | choose a b k ih => intro _ _ _ _ _ hn h; rw [Sem.wp] at h ⊢; exact ⟨h.1, ih _ (by exact hn) h.2⟩
  | os a b k ih => intro _ _ _ _ _ hn h; rw [Sem.wp] at h ⊢; exact ih _ (by exact hn) h
  | call c a g l k ih => intro _ _ _ _ _ hn h; rw [Sem.wp] at h ⊢; obtain ⟨r, s', R, h⟩ := h; exact ⟨r, s', R, ih _ (Nat.le_trans hn (runs_toks R)) h⟩
  | handled a k ih => intro _ _ _ _ _ hn h; rw [Sem.wp] at h ⊢; exact ih _ hn h
  | newGen a k ih => intro _ _ _ _ _ hn h; rw [Sem.wp] at h ⊢; exact ih _ (by exact hn) h
  | genState g k ih => intro _ _ _ _ _ hn h; rw [Sem.wp] at h ⊢; obtain ⟨o, e, h⟩ := h; exact ⟨o, e, ih _ hn h⟩
  | resume g r l k ih => intro _ _ _ _ _ hn h; rw [Sem.wp] at h ⊢; obtain ⟨r, s', R, h⟩ := h; exact ⟨r, s', R, ih _ (Nat.le_trans hn (wakes_toks R)) h⟩
  | yield a b c k ih => intro _ _ _ _ _ hn h; rw [Sem.wp] at h; exact h.elim
  | stack k ih => intro _ _ _ _ _ hn h; rw [Sem.wp] at h ⊢; exact ih _ hn h
  | fork c k ih => intro _ _ _ _ _ hn h; rw [Sem.wp] at h; exact h.elim
  | thread k ih => intro _ _ _ _ _ hn h; rw [Sem.wp] at h ⊢; exact ih _ hn h
  | await a b c d k ih => intro _ _ _ _ _ hn h; rw [Sem.wp] at h; exact h.elim
/-- whatever runs, the count of tokens never falls -/
theorem any_toks {α : Type} {M : Model} {A : Around} {t : Sem α} {Q : α → Shared → Prop} {E : Value → Shared → Prop} {s : Shared}
    (h : wpAny M A t (fun v s' => s.toks ≤ s'.toks → Q v s') E s) : wpAny M A t Q E s :=
  fun Γ p hΓ => wp_toks t (Nat.le_refl _) (h Γ p hΓ)
end Mine
end

section
open PySem PySem.W PyProof.Rows
set_option maxRecDepth 100000
namespace Mine
section
variable {M : Model} {A : Around} {E : Value → Shared → Prop} {s : Shared}
theorem same_strT {y z : Str} {u v : Tok} {Q : Bool → Shared → Prop} (hu : u ≠ 0) (hv : v ≠ 0) (hne : u ≠ v) (hb : NoneBooked s.heap) (hq : ∀ b, (b = true → y = z) → Q b s) : wpAny M A (isSame (.str y u) (.str z v)) Q E s := by
  show wpAny M A (isSame.created (y == z) u v) Q E s
  unfold isSame.created
  rw [if_neg (by simp [hu, hv]), if_neg (by simpa using hne)]
  by_cases e : y = z
  · have eb : (y == z) = true := by simpa using e
    rw [eb]
    refine wpAny_ite ?_
    rw [if_neg (by decide)]
    refine wpAny_bind (wpAny_sharingNotTold_none hb ?_)
    simp only [Bool.false_eq_true, if_false]
    refine wpAny_bind (wpAny_sharingNotTold_none hb ?_)
    simp only [Bool.false_eq_true, if_false]
    exact wpAny_bind (wpAny_rule (wpAny_bind (wpAny_askSetting (wpAny_pure (hq _ fun _ => e)))))
  · have eb : (y == z) = false := by simpa using e
    rw [eb]
    exact wpAny_pure (hq _ fun h => by cases h)
theorem is_strT {y z : Str} {u v : Tok} {Q : Value → Shared → Prop} (hu : u ≠ 0) (hv : v ≠ 0) (hne : u ≠ v) (hb : NoneBooked s.heap) (hq : ∀ b, (b = true → y = z) → Q (.bool b) s) : wpAny M A (compareOp .Is (.str y u) (.str z v)) Q E s := by
  show wpAny M A (do return .bool (← isSame (.str y u) (.str z v))) Q E s
  exact wpAny_bind (same_strT hu hv hne hb fun b h => wpAny_pure (hq b h))
theorem same_intT {a b : Int} {t u : Tok} {Q : Bool → Shared → Prop} (ht : t ≠ 0) (hu : u ≠ 0) (hne : t ≠ u) (hs : smallInt a = true) (hq : Q (decide (a = b)) s) : wpAny M A (isSame (.int a t) (.int b u)) Q E s := by
  show wpAny M A (if (a == b && smallInt a) = true then isSame.cachedInt t u else isSame.created (a == b) t u) Q E s
  by_cases e : a = b
  · subst e
    rw [if_pos (by simp [hs])]
    unfold isSame.cachedInt
    rw [if_neg (by simp [ht, hu])]
    exact wpAny_bind (wpAny_rule (wpAny_pure (by simpa using hq)))
  · rw [if_neg (by simp [e])]
    unfold isSame.created
    rw [if_neg (by simp [ht, hu]), if_neg (by simpa using hne)]
    have eb : (a == b) = false := by simpa using e
    rw [eb]
    exact wpAny_pure (by simpa [e] using hq)
theorem is_intT {a b : Int} {t u : Tok} {Q : Value → Shared → Prop} (ht : t ≠ 0) (hu : u ≠ 0) (hne : t ≠ u) (hs : smallInt a = true) (hq : Q (.bool (decide (a = b))) s) : wpAny M A (compareOp .Is (.int a t) (.int b u)) Q E s := by
  show wpAny M A (do return .bool (← isSame (.int a t) (.int b u))) Q E s
  exact wpAny_bind (same_intT ht hu hne hs (wpAny_pure hq))
end
theorem none_booked {P : Params} {h : Heap} (X : (KK P).In h) : NoneBooked h :=
  ⟨_, .of_isNs (isNs_of_in X (by kernel_rfl : nsOkIn (KK P) cStatics = true)), nsMap_none_of_in X (by kernel_rfl) (by kernel_rfl : nsIn (KK P) cStatics sharingNotToldKey = some none)⟩
end Mine
end

section
open PySem PySem.W PyProof.Rows
set_option maxRecDepth 100000
namespace Mine
/-- the end of a turn, with the count of tokens told to the invariant -/
noncomputable def EndT (h₀ : Heap) (L : Addr) (J : FMap → Led → Nat → Prop) (own : Led) (adr : List Addr) (s₁ s₂ : Shared) : Prop :=
  ∃ h' tk m' all nx, s₂ = { s₁ with heap := h', toks := tk } ∧ Fr h₀ L h' m' ∧ News h₀ L h' all ∧ (∀ p ∈ nx, p ∈ all) ∧ (∀ p ∈ own, p ∈ all) ∧ nx.map (·.1) = adr ∧ J m' nx tk
noncomputable def PostT (h₀ : Heap) (L : Addr) (J : FMap → Led → Nat → Prop) (own : Led) (adr : List Addr) (s₁ : Shared) (Q : Flow → Shared → Prop) : Flow → Shared → Prop
  | .ret v, s₂ => Q (.ret v) s₂
  | .brk, s₂ => Q .next s₂
  | .next, s₂ => EndT h₀ L J own adr s₁ s₂
  | .cont, s₂ => EndT h₀ L J own adr s₁ s₂
section
variable {prog : Program} {w : World} {A : Around} {E : Value → Shared → Prop} {s : Shared} {env : Env} {h₀ : Heap} {x : Str} {px : Pos} {body : List Stmt} {Q : Flow → Shared → Prop}
noncomputable def LoopAtT (prog : Program) (w : World) (A : Around) (env : Env) (x : Str) (px : Pos) (body : List Stmt) (Q : Flow → Shared → Prop) (E : Value → Shared → Prop) (it : Value) (s₂ : Shared) : Prop :=
  codeAny (model prog w) A (.forLoop (.Name x px) it body [] env) (fun r s' => match r with | .ok f => Q f s' | .error e => cameBackBy (model prog w) A env E e s') s₂
theorem For_T {m : FMap} {pos : Pos} {iter : Expr} (_F : Fr h₀ env.locals s.heap m)
    (h : wpAny (model prog w) A (eval iter env) (fun xv s₁ => wpAny (model prog w) A (pyIter xv) (fun it s₂ => LoopAtT prog w A env x px body Q E it s₂) E s₁) E s)
    (hs : ∀ x, foldedSetIterable iter env x = pure x := by intro _; rfl) : wpAny (model prog w) A (exec (.For (.Name x px) iter body [] pos) env) Q E s := wpAny_For h hs
theorem loop_T {I : Addr} {fp wr : List Addr} {n : Nat} {P : Nat → Value → Prop} {St : Nat → Heap → Prop} {m₀ : FMap} {news : Led} (PT : Nat → Nat → Value → Prop) (J : Nat → FMap → Led → Nat → Prop)
    (mono : ∀ i m nx a b, a ≤ b → J i m nx a → J i m nx b) (W : Walks prog w A I fp wr n P St)
    (item : ∀ i (s : Shared) (Q : Option Value → Shared → Prop) (E : Value → Shared → Prop), i < n → St i s.heap →
      (∀ v h' tk, PT i s.toks v → s.toks ≤ tk → St (i + 1) h' → (∀ b o, b ∉ wr → s.heap.get? b = some o → h'.get? b = some o) → Q (some v) { s with heap := h', toks := tk }) → wpAny (model prog w) A (pyNext (.ref I)) Q E s)
    (hx : env.kindOf x = some .local) (hp : (env.scope.kind == .class || (env.scope.kind == .module && env.locals != env.globals)) = false) (hE : PassesOwn (model prog w) A env E)
    (hLf : env.locals ∉ fp) (hwr : ∀ b ∈ wr, h₀.get? b = none) (hnf : ∀ p ∈ news, p.1 ∉ fp) (hst : St 0 s.heap) (F : Fr h₀ env.locals s.heap m₀) (N : News h₀ env.locals s.heap news) (hj : J 0 m₀ news s.toks)
    (turn : ∀ i v m₁ nx h a tk own, i < n → PT i a v → a ≤ tk → nx.map (·.1) = news.map (·.1) → OwnOff own (news.map (·.1)) → (∀ b ∈ fp, b ∉ wr → h₀.get? b = none → ∀ o, s.heap.get? b = some o → (b, o) ∈ own) → J i m₁ nx a → Fr h₀ env.locals h (fun y => if y = x then some v else m₁ y) → News h₀ env.locals h (nx ++ own) →
      wpAny (model prog w) A (execs body env) (PostT h₀ env.locals (J (i + 1)) own (news.map (·.1)) { s with heap := h, toks := tk } Q) E { s with heap := h, toks := tk })
    (done : ∀ m₁ nx h tk, s.toks ≤ tk → J n m₁ nx tk → (∀ b ∈ fp, b ∉ wr → ∀ o, s.heap.get? b = some o → h.get? b = some o) → nx.map (·.1) = news.map (·.1) → Fr h₀ env.locals h m₁ → News h₀ env.locals h nx → Q .next { s with heap := h, toks := tk }) : LoopAtT prog w A env x px body Q E (.ref I) s := by
  have away : ∀ {b : Addr} {adr : List Addr}, (∀ p ∈ news, p.1 ∉ fp) → adr = news.map (·.1) → b ∈ adr → b ∉ fp := by
    rintro b adr hn rfl hb
    obtain ⟨p, hp, rfl⟩ := List.mem_map.mp hb
    exact hn p hp
  have keepF : ∀ {h' h₁ : Heap} {m : FMap}, Fr h₀ env.locals h' m → (∀ b o, b ∉ wr → h'.get? b = some o → h₁.get? b = some o) → Fr h₀ env.locals h₁ m := by
    intro h' h₁ m F' hk
    refine ⟨F'.ns.at' fun o e => hk _ o (fun hm => hLf (W.sub _ hm)) e, fun b o e => hk b o (fun hm => ?_) (F'.keep b o e), F'.above⟩
    rw [hwr b hm] at e
    cases e
  refine codeAny_forLoop (fun k s' => ∃ h' tk m' nx i, s' = { s with heap := h', toks := tk } ∧ s.toks ≤ tk ∧ St i h' ∧ (∀ b ∈ fp, b ∉ wr → ∀ o, s.heap.get? b = some o → h'.get? b = some o) ∧ Fr h₀ env.locals h' m' ∧ News h₀ env.locals h' nx ∧ nx.map (·.1) = news.map (·.1) ∧ J i m' nx tk ∧ i ≤ n ∧ k = n + 1 - i) ?_ (n + 1)
    ⟨s.heap, s.toks, m₀, news, 0, rfl, Nat.le_refl _, hst, fun _ _ _ _ e => e, F, N, rfl, hj, Nat.zero_le _, rfl⟩
  rintro k s' ⟨h', tk, m', nx, i, rfl, htk, hst', hkeep, F', N', hadr, hJ, hi, rfl⟩
  have keepN : ∀ {h₁ : Heap}, (∀ b o, b ∉ wr → h'.get? b = some o → h₁.get? b = some o) → News h₀ env.locals h₁ nx := by
    intro h₁ hk p hp
    exact ⟨hk _ _ (fun hm => away hnf hadr (List.mem_map.mpr ⟨p, hp, rfl⟩) (W.sub _ hm)) (N' p hp).1, (N' p hp).2⟩
  rcases Nat.lt_or_ge i n with hlt | hge
  · refine item i _ _ _ hlt hst' fun v h₁ tk₁ hP ht₁ hst₁ hk₁ => ?_
    refine wpAny_assign_Name (wpAny_storeName_local hx (keepF F' hk₁).ns (fun h₂ hn₂ hs₂ => ?_) hp)
    have hst₂ : St (i + 1) h₂ := W.frame _ _ _ hst₁ fun b hb o e => (hs₂.2 b fun q => hLf (q ▸ hb)).trans e
    have No : News h₀ env.locals h₂ (ownOf h₀ fp h₂) := news_ownOf hLf
    have off : OwnOff (ownOf h₀ fp h₂) (news.map (·.1)) := fun p hp b hb e => away hnf rfl hb (e ▸ ownOf_sub p hp)
    have hk₂ : ∀ b ∈ fp, b ∉ wr → ∀ o, s.heap.get? b = some o → h₂.get? b = some o := fun b hb hw o e => (hs₂.2 b fun q => hLf (q ▸ hb)).trans (hk₁ b o hw (hkeep b hb hw o e))
    have stay : ∀ b ∈ fp, ∀ o, h₂.get? b = some o → ∀ (h₃ : Heap) (all : Led) {m₃ : FMap}, Fr h₀ env.locals h₃ m₃ → News h₀ env.locals h₃ all → (∀ p ∈ ownOf h₀ fp h₂, p ∈ all) → h₃.get? b = some o := by
      intro b hb o e h₃ all m₃ F₃ N₃ ho₃
      cases hn : h₀.get? b with
      | some o₀ =>
        have e2 : h₂.get? b = some o₀ := (keepF F' hk₁ |>.set hn₂ hs₂).keep b o₀ hn
        rw [e] at e2
        cases e2
        exact F₃.keep b o hn
      | none => exact (N₃ _ (ho₃ _ (mem_ownOf hb hn e))).1
    have back : ∀ f, EndT h₀ env.locals (J (i + 1)) (ownOf h₀ fp h₂) (news.map (·.1)) { s with heap := h₂, toks := tk₁ + 1 } f → tk₁ + 1 ≤ f.toks →
        ∃ k, k < n + 1 - i ∧ ∃ h' tk m' nx i, f = { s with heap := h', toks := tk } ∧ s.toks ≤ tk ∧ St i h' ∧ (∀ b ∈ fp, b ∉ wr → ∀ o, s.heap.get? b = some o → h'.get? b = some o) ∧ Fr h₀ env.locals h' m' ∧ News h₀ env.locals h' nx ∧ nx.map (·.1) = news.map (·.1) ∧ J i m' nx tk ∧ i ≤ n ∧ k = n + 1 - i := by
      rintro f ⟨h₃, tk₃, m₃, all, nx₃, rfl, F₃, N₃, hn₃, ho₃, ha₃, hJ₃⟩ hle
      refine ⟨n + 1 - (i + 1), by (first | lia | omega), h₃, tk₃, m₃, nx₃, i + 1, rfl, Nat.le_trans htk (Nat.le_trans ht₁ (Nat.le_trans (Nat.le_succ _) hle)), ?_, fun b hb hw o e => ?_, F₃, fun p hp => N₃ p (hn₃ p hp), ha₃, hJ₃, hlt, rfl⟩
      · exact W.frame _ _ _ hst₂ fun b hb o e => stay b hb o e h₃ all F₃ N₃ ho₃
      · exact stay b hb o (hk₂ b hb hw o e) h₃ all F₃ N₃ ho₃
    refine wpAny_passesOwn hE (any_toks (wpAny_mono (turn i v m' nx h₂ tk (tk₁ + 1) (ownOf h₀ fp h₂) hlt hP (Nat.le_succ_of_le ht₁) hadr off (fun b hb hw hn o e => mem_ownOf hb hn (hk₂ b hb hw o e)) hJ ((keepF F' hk₁).set hn₂ hs₂) ?_) (fun f s₃ h₃ hle => ?_) fun _ _ e => e))
    · intro p hp
      rcases List.mem_append.mp hp with hp | hp
      · exact ((keepN hk₁).set hs₂) p hp
      · exact No p hp
    · cases f with
      | ret v => exact h₃
      | brk => exact h₃
      | next => exact back _ h₃ hle
      | cont => exact back _ h₃ hle
  · obtain rfl : i = n := Nat.le_antisymm hi hge
    refine any_toks (W.done _ _ _ hst' fun h₁ tk₁ hk₁ hle => ?_)
    exact wpAny_execs_nil (done m' nx h₁ tk₁ (Nat.le_trans htk hle) (mono _ _ _ _ _ hle hJ) (fun b hb hw o e => hk₁ b o hw (hkeep b hb hw o e)) hadr (keepF F' hk₁) (keepN hk₁))
theorem EndT.intro {L : Addr} {J : FMap → Led → Nat → Prop} {m' : FMap} {own all nx : Led} {adr : List Addr} {s₁ : Shared} {h' : Heap} {tk : Nat} (F : Fr h₀ L h' m') (N : News h₀ L h' all)
    (hj : J m' nx tk) (ha : nx.map (·.1) = adr) (hn : ∀ p ∈ nx, p ∈ all) (ho : ∀ p ∈ own, p ∈ all) : EndT h₀ L J own adr s₁ { s₁ with heap := h', toks := tk } := ⟨h', tk, m', all, nx, rfl, F, N, hn, ho, ha, hj⟩
/-- over a text: the sign of each turn is made there, its token is the count of before -/
theorem iter_strT {y : Str} {t₀ : Tok} {m₀ : FMap} {news : Led} (J : Nat → FMap → Led → Nat → Prop) (mono : ∀ i m nx a b, a ≤ b → J i m nx a → J i m nx b)
    (hh : A.handled = none) (hx : env.kindOf x = some .local) (hp : (env.scope.kind == .class || (env.scope.kind == .module && env.locals != env.globals)) = false) (hE : PassesOwn (model prog w) A env E)
    (F : Fr h₀ env.locals s.heap m₀) (N : News h₀ env.locals s.heap news) (hj : J 0 m₀ news s.toks)
    (turn : ∀ i c m₁ nx h a tk own, y.cps[i]? = some c → a ≤ tk → nx.map (·.1) = news.map (·.1) → OwnOff own (news.map (·.1)) → J i m₁ nx a → Fr h₀ env.locals h (fun z => if z = x then some (.str ⟨#[c]⟩ a) else m₁ z) → News h₀ env.locals h (nx ++ own) →
      wpAny (model prog w) A (execs body env) (PostT h₀ env.locals (J (i + 1)) own (news.map (·.1)) { s with heap := h, toks := tk } Q) E { s with heap := h, toks := tk })
    (done : ∀ m₁ nx h tk, s.toks ≤ tk → J y.cps.size m₁ nx tk → Fr h₀ env.locals h m₁ → News h₀ env.locals h nx → Q .next { s with heap := h, toks := tk }) :
    wpAny (model prog w) A (pyIter (.str y t₀)) (fun it s₂ => LoopAtT prog w A env x px body Q E it s₂) E s := by
  have main : ∀ (cls : String), (∀ I, Walks prog w A I [I] [I] y.cps.size (SignAt y) (fun i h => h.IsStrIter I cls y t₀ i)) →
      (∀ I i (s : Shared) (Q : Option Value → Shared → Prop) (E : Value → Shared → Prop), i < y.cps.size → s.heap.IsStrIter I cls y t₀ i →
        (∀ v h' tk, (∃ c, y.cps[i]? = some c ∧ v = .str ⟨#[c]⟩ s.toks) → s.toks ≤ tk → h'.IsStrIter I cls y t₀ (i + 1) → (∀ b o, b ∉ [I] → s.heap.get? b = some o → h'.get? b = some o) → Q (some v) { s with heap := h', toks := tk }) → wpAny (model prog w) A (pyNext (.ref I)) Q E s) →
      LoopAtT prog w A env x px body Q E (.ref s.heap.objs.size) { s with heap := s.heap.push { cls := .type cls, data := .fields #[.str y t₀, .int 0 0] } } := by
    intro cls W item
    refine loop_T (fun i a v => ∃ c, y.cps[i]? = some c ∧ v = .str ⟨#[c]⟩ a) J mono (W s.heap.objs.size) (item _) hx hp hE ?_ ?_ ?_ ⟨_, Heap.get?_push_size _ rfl, rfl, rfl⟩ (F.push _) (fun p hp => ⟨Heap.get?_push_of_some _ (N p hp).1, (N p hp).2⟩) hj ?_ ?_
    · intro hm
      exact absurd F.ns.lt ((List.mem_singleton.mp hm) ▸ Nat.lt_irrefl _)
    · intro b hb
      rw [List.mem_singleton.mp hb]
      exact next_is_new F
    · intro p hp hI
      exact absurd (Heap.lt_size (N p hp).1) ((List.mem_singleton.mp hI) ▸ Nat.lt_irrefl _)
    · rintro i v m₁ nx h a tk own _ ⟨c, hc, rfl⟩ ha hadr ho _ hj' F' N'
      exact turn i c m₁ nx h a tk own hc ha hadr ho hj' F' N'
    · exact fun m₁ nx h tk h1 h2 _ _ => done m₁ nx h tk h1 h2
  have away : ∀ {I : Addr} {h h' : Heap}, Heap.SameBut I h h' → ∀ b o, b ∉ [I] → h.get? b = some o → h'.get? b = some o :=
    fun hs b o hb e => hs.extBut b o (fun q => hb (List.mem_singleton.mpr q)) e
  refine wpAny_pyIter_strU ?_
  cases ha : y.cps.all (· < 128)
  · rw [show strIterType y = "str_iterator" by simp [strIterType, ha]]
    exact main _ (fun I => Walks.strWide hh I y t₀) fun I i s Q E hi st hQ =>
      wpAny_pyNext_wide_item st (Array.getElem?_eq_getElem hi) fun h' hit' hs' => hQ _ h' (s.toks + 1) ⟨_, Array.getElem?_eq_getElem hi, rfl⟩ (Nat.le_succ _) hit' (away hs')
  · rw [show strIterType y = "str_ascii_iterator" by simp [strIterType, ha]]
    exact main _ (fun I => Walks.strAscii hh I y t₀) fun I i s Q E hi st hQ =>
      wpAny_pyNext_ascii_item st (Array.getElem?_eq_getElem hi) fun h' hit' hs' => hQ _ h' (s.toks + 1) ⟨_, Array.getElem?_eq_getElem hi, rfl⟩ (Nat.le_succ _) hit' (away hs')
/-- over a list of the ledger, which no turn writes -/
theorem iter_listT {D : Addr} {o : Obj} {vs : List Value} {k : Nat} {m₀ : FMap} {rest : Led} (J : Nat → FMap → Led → Nat → Prop) (mono : ∀ i m nx a b, a ≤ b → J i m nx a → J i m nx b)
    (hh : A.handled = none) (hx : env.kindOf x = some .local) (hp : (env.scope.kind == .class || (env.scope.kind == .module && env.locals != env.globals)) = false) (hE : PassesOwn (model prog w) A env E)
    (F : Fr h₀ env.locals s.heap m₀) (ho : o = listOf (List.toArray vs) k) (N : News h₀ env.locals s.heap ((D, o) :: rest)) (hne : ∀ p ∈ rest, p.1 ≠ D) (hj : J 0 m₀ rest s.toks)
    (turn : ∀ i v m₁ nx h a tk own, vs[i]? = some v → a ≤ tk → nx.map (·.1) = rest.map (·.1) → OwnOff own (rest.map (·.1)) → (D, o) ∈ own → J i m₁ nx a → Fr h₀ env.locals h (fun z => if z = x then some v else m₁ z) → News h₀ env.locals h (nx ++ own) →
      wpAny (model prog w) A (execs body env) (PostT h₀ env.locals (J (i + 1)) own (rest.map (·.1)) { s with heap := h, toks := tk } Q) E { s with heap := h, toks := tk })
    (done : ∀ m₁ nx h tk, s.toks ≤ tk → J vs.length m₁ nx tk → nx.map (·.1) = rest.map (·.1) → Fr h₀ env.locals h m₁ → News h₀ env.locals h ((D, o) :: nx) → Q .next { s with heap := h, toks := tk }) :
    wpAny (model prog w) A (pyIter (.ref D)) (fun it s₂ => LoopAtT prog w A env x px body Q E it s₂) E s := by
  have hD := N (D, o) (List.mem_cons_self ..)
  have hls : s.heap.IsList D vs.toArray := by subst ho; exact PySem.IsL.isList (n := k) hD.1
  have hlt : D < s.heap.objs.size := Heap.lt_size hD.1
  refine wpAny_pyIter_list hls ?_
  have W := Walks.list (prog := prog) (w := w) hh s.heap.objs.size D (Nat.ne_of_lt hlt) vs.toArray
  refine loop_T (news := rest) (fun i _ v => vs[i]? = some v) J mono W ?_ hx hp hE ?_ ?_ ?_ ⟨⟨_, Heap.get?_push_size _ rfl, rfl, rfl⟩, hls.at fun o e => Heap.get?_push_of_some _ e⟩ (F.push _) (fun p hp => ⟨Heap.get?_push_of_some _ (N p (List.mem_cons_of_mem _ hp)).1, (N p (List.mem_cons_of_mem _ hp)).2⟩) hj ?_ ?_
  · intro i s Q E hi st hQ
    exact any_toks (W.item i s _ E hi st fun v h' tk hv st' hk hle => hQ v h' tk (by simpa using hv) hle st' hk)
  · intro hm
    rcases List.mem_cons.mp hm with e | hm
    · exact absurd F.ns.lt (e ▸ Nat.lt_irrefl _)
    · exact hD.2.1 (List.mem_singleton.mp hm).symm
  · intro b hb
    rw [List.mem_singleton.mp hb]
    exact next_is_new F
  · intro p hp hm
    rcases List.mem_cons.mp hm with e | hm
    · exact absurd (Heap.lt_size (N p (List.mem_cons_of_mem _ hp)).1) (e ▸ Nat.lt_irrefl _)
    · exact hne p hp (List.mem_singleton.mp hm)
  · intro i v m₁ nx h a tk own _ hv ha hadr hoff hown hj' F' N'
    exact turn i v m₁ nx h a tk own hv ha hadr hoff (hown D (by simp) (by simpa using Nat.ne_of_lt hlt) hD.2.2 o (Heap.get?_push_of_some _ hD.1)) hj' F' N'
  · intro m₁ nx h tk h1 h2 h3 h4 F' N'
    refine done m₁ nx h tk h1 (by simpa using h2) h4 F' fun p hp => ?_
    rcases List.mem_cons.mp hp with rfl | hp
    · exact ⟨h3 D (by simp) (by simpa using Nat.ne_of_lt hlt) o (Heap.get?_push_of_some _ hD.1), hD.2⟩
    · exact N' p hp
end
end Mine
end

section
open PySem PySem.W PyProof.Rows PyProof.Rows.LCg
set_option maxRecDepth 100000
namespace Mine
/-- the end of an element: the ledger as it was, the value told by R -/
noncomputable def ElT (h₀ : Heap) (L : Addr) (m : FMap) (s : Shared) (led : Led) (R : Value → Prop) (y : Value) (s₂ : Shared) : Prop :=
  ∃ h' tk, s₂ = { s with heap := h', toks := tk } ∧ Fr h₀ L h' m ∧ News h₀ L h' led ∧ R y
section
variable {prog : Program} {w : World} {A : Around} {E : Value → Shared → Prop} {s : Shared} {h₀ : Heap} {L : Addr} {m : FMap} {env : Env}
theorem block_T {elt iter : Expr} {x : Str} {px : Pos} {scope : Scope} {cl : List (Str × Addr)} {pos : Pos} {I ax : Addr} {vs : List Value} {k : Nat} {news : Led} {n₀ : Nat} {RR : Value → Addr → Result → Shared → Prop} (R : Nat → Value → Prop)
    (hh : A.handled = none) (hcell : ∀ y ∈ scope.names, y.2 ≠ .cell) (hkind : scope.kind = .function) (hx : scope.names.lookup x = some .local) (hax : ax < I) (hlen : vs.length ≤ 1000)
    (hI : s.heap.IsListIter I ax 0) (hIlt : I < s.heap.objs.size) (hm : (ax, listOf (List.toArray vs) k) ∈ news) (hn0 : n₀ ≤ s.toks)
    (F : Fr h₀ L s.heap m) (N : News h₀ L s.heap news) (hIL : L ≠ I) (hI₀ : h₀.get? I = none) (off : ∀ p ∈ news, p.1 ≠ I)
    (turn : ∀ i v I oI C oC D m₂ h tk ys (E' : Value → Shared → Prop), vs[i]? = some v → n₀ ≤ tk → NsObj oC m₂ → m₂ x = some v → Fr h₀ L h m → News h₀ L h ((I, oI) :: (C, oC) :: (D, lst ys) :: news) → Off3 I C D news → ((@Ne Nat I C) ∧ (@Ne Nat I D) ∧ (@Ne Nat C D)) →
      wpAny (model prog w) A (eval elt (compEnvC scope cl C env)) (ElT h₀ L m { s with heap := h, toks := tk } ((I, oI) :: (C, oC) :: (D, lst ys) :: news) (R i)) E' { s with heap := h, toks := tk })
    (fin : ∀ D C h tk ys, n₀ ≤ tk → ys.length = vs.length → (∀ i y, ys[i]? = some y → R i y) → Fr h₀ L h m → News h₀ L h ((D, lst ys) :: news) → Off1 D news → (∃ m', h.Ns C m') → h₀.get? C = none → C ≠ L → C ≠ D → (∀ p ∈ news, p.1 ≠ C) → RR (.ref D) C (.ok .next) { s with heap := h, toks := tk }) :
    wpAny (model prog w) A (newList []) (fun acc s₃ => wpAny (model prog w) A (newFunctionEnv scope env.globals cl [] env.qual none .none (some env)) (fun cenv s₄ =>
      codeAny (model prog w) A (.compStart (.ListComp elt [⟨.Name x px, iter, [], 0⟩] scope pos) 0 (.ref I) acc { cenv with scope := relabel scope env }) (RR acc cenv.locals) s₄) E s₃) E s := by
  have W := Walks.list (prog := prog) (w := w) hh I ax (Nat.ne_of_lt hax) vs.toArray
  refine wpAny_newObj_type (wpAny_newFunctionEnv hcell (by intro y hy; simp at hy) (fun h₁ hns₁ hsb₁ => ?_) hkind)
  dsimp only at hns₁ hsb₁ ⊢
  obtain ⟨D, hDv⟩ : ∃ D, s.heap.objs.size = D := ⟨_, rfl⟩
  obtain ⟨C, hCv⟩ : ∃ C, (s.heap.push { cls := Value.type "list", dict := none, data := Data.seq #[] }).objs.size = C := ⟨_, rfl⟩
  have hC : C = D + 1 := by rw [← hCv, Heap.size_push, hDv]
  have old : ∀ b o, s.heap.get? b = some o → h₁.get? b = some o := fun b o e => by
    have h1 : @LT.lt Nat _ b s.heap.objs.size := Heap.lt_size e
    exact hsb₁.extBut b o (by rw [hCv]; exact Nat.ne_of_lt (by (first | lia | omega))) (Heap.get?_push_of_some _ (Heap.get?_push_of_some _ e))
  have hacc : h₁.get? D = some (lst []) := hsb₁.extBut _ _ (by rw [hCv]; exact Nat.ne_of_lt (by (first | lia | omega))) (Heap.get?_push_of_some _ (hDv ▸ Heap.get?_push_size _ rfl))
  rw [hCv] at hns₁
  have ltDC : @LT.lt Nat _ D C := hC ▸ Nat.lt_succ_self D
  have ltID : @LT.lt Nat _ I D := hDv ▸ hIlt
  have ltLD : @LT.lt Nat _ L D := hDv ▸ F.ns.lt
  have eDC : @Ne Nat D C := Nat.ne_of_lt ltDC
  have eID : @Ne Nat I D := Nat.ne_of_lt ltID
  have eIC : @Ne Nat I C := Nat.ne_of_lt (Nat.lt_trans ltID ltDC)
  have eLD : @Ne Nat L D := Nat.ne_of_lt ltLD
  have eLC : @Ne Nat L C := Nat.ne_of_lt (Nat.lt_trans ltLD ltDC)
  have hneD : ∀ p ∈ news, @Ne Nat p.1 D := fun p hp => Nat.ne_of_lt (hDv ▸ Heap.lt_size (N p hp).1)
  have hneC : ∀ p ∈ news, @Ne Nat p.1 C := fun p hp => Nat.ne_of_lt (Nat.lt_trans (hDv ▸ Heap.lt_size (N p hp).1 : @LT.lt Nat _ p.1 D) ltDC)
  have none₀ : ∀ a, @LE.le Nat _ D a → h₀.get? a = none := fun a ha => by
    cases e : h₀.get? a with
    | none => rfl
    | some o => exact absurd (hDv ▸ Heap.lt_size (F.keep a o e) : @LT.lt Nat _ a D) (Nat.not_lt.mpr ha)
  have nD : h₀.get? D = none := none₀ D (Nat.le_refl _)
  have nC : h₀.get? C = none := none₀ C (Nat.le_of_lt ltDC)
  have off3 : Off3 I C D news := Off3.of fun p hp => ⟨off p hp, hneC p hp, hneD p hp⟩
  rw [hCv, hDv]
  have loop : ∀ s₃ : Shared, s₃ = { s with heap := h₁, toks := s.toks + ([] : List (Str × Value)).length } →
      codeAny (model prog w) A (.compLoop (.ListComp elt [⟨.Name x px, iter, [], 0⟩] scope pos) 0 (.ref I) (.ref D) (compEnvC scope cl C env)) (RR (.ref D) C) s₃ := by
    rintro s₃ rfl
    refine codeAny_compLoop_tests
      (fun j s' => ∃ h' tk i ys m', s' = { s with heap := h', toks := tk } ∧ n₀ ≤ tk ∧ i ≤ vs.length ∧ j = vs.length + 1 - i ∧ ys.length = i ∧ (∀ i y, ys[i]? = some y → R i y) ∧ h'.IsListIter I ax i ∧ Fr h₀ L h' m ∧ h'.Ns C m' ∧ News h₀ L h' ((D, lst ys) :: news))
      ?_ (vs.length + 1) ⟨h₁, _, 0, [], _, rfl, Nat.le_trans hn0 (Nat.le_add_right ..), Nat.zero_le _, rfl, rfl, by simp, hI.at fun o e => old _ _ e, F.keeps old, hns₁, fun p hp => ?_⟩
    · rintro j s' ⟨h', tk, i, ys, m', rfl, htk, hi, rfl, hyl, hR, hst, F', hn', N'⟩
      have hax' : h'.IsList ax vs.toArray := PySem.IsL.isList (n := k) (N' _ (List.mem_cons_of_mem _ hm)).1
      rcases Nat.lt_or_ge i vs.length with hlt | hge
      · refine any_toks (W.item i _ _ _ (by simpa using hlt) ⟨hst, hax'⟩ fun v h₂ tk₂ hv hst₂ hk₂ hle => ?_)
        have hv' : vs[i]? = some v := by simpa using hv
        have kI : ∀ b o, b ≠ I → h'.get? b = some o → h₂.get? b = some o := fun b o hb e => hk₂ b o (by simpa using hb) e
        refine wpAny_assign_Name (wpAny_storeName_local (lookup_relabel_local hx) (hn'.at' fun o e => kI _ o (Ne.symm eIC) e) (fun h₃ hn₃ hs₃ => ?_) (by simp [compEnvC, relabel, hkind]))
        refine wpAny_tests_nil ?_
        simp only [if_true]
        have F₃ : Fr h₀ L h₃ m := (fr_but F' (fun b o hb e => kI b o (by simpa using hb) e) hIL hI₀).change hs₃ (Ne.symm eLC) nC
        have hst₃ : h₃.IsListIter I ax (i + 1) := hst₂.1.at fun o e => hs₃.extBut _ _ eIC e
        obtain ⟨oI, heI⟩ : ∃ o, h₃.get? I = some o := by obtain ⟨o, e, _⟩ := hst₃; exact ⟨o, e⟩
        obtain ⟨oC, heC, hoC⟩ := ns_obj hn₃
        have N₃ : News h₀ L h₃ ((I, oI) :: (C, oC) :: (D, lst ys) :: news) := fun p hp => by
          rcases List.mem_cons.mp hp with rfl | hp
          · exact ⟨heI, Ne.symm hIL, hI₀⟩
          · rcases List.mem_cons.mp hp with rfl | hp
            · exact ⟨heC, Ne.symm eLC, nC⟩
            · have z := N' p hp
              have hp2 : p.1 ≠ I ∧ p.1 ≠ C := by
                rcases List.mem_cons.mp hp with rfl | hp
                · exact ⟨Ne.symm eID, eDC⟩
                · exact ⟨off p hp, hneC p hp⟩
              exact ⟨hs₃.extBut _ _ hp2.2 (kI _ _ hp2.1 z.1), z.2⟩
        refine wpAny_mono (any_toks (wpAny_mono (turn i v I oI C oC D _ h₃ _ ys _ hv' ?_ hoC (by simp) F₃ N₃ off3 ⟨eIC, eID, Ne.symm eDC⟩) (fun y s₄ h₄ (hle₄ : _ ≤ s₄.toks) => (⟨h₄, hle₄⟩ : _ ∧ _)) fun _ _ e => e)) (fun y s₄ h₄ => ?_) fun _ _ e => e
        · exact Nat.le_trans htk (Nat.le_trans hle (Nat.le_add_right ..))
        obtain ⟨⟨h₄, tk₄, rfl, F₄, N₄, hRy⟩, hle₄⟩ := h₄
        have zD := (N₄ (D, lst ys) (List.mem_cons_of_mem _ (List.mem_cons_of_mem _ List.mem_cons_self))).1
        refine append_at (hsz := by show ys.toArray.size ≤ sizeLine; rw [List.size_toArray, hyl, sizeLine_eq]; (first | lia | omega)) zD fun h₅ hs₅ hD₅ => ?_
        refine ⟨vs.length + 1 - (i + 1), by (first | lia | omega), h₅, tk₄, i + 1, ys ++ [y], _, rfl, ?_, hlt, rfl, by simp [hyl], fun i' y' e => ?_, ?_, F₄.change hs₅ (Ne.symm eLD) nD,
          (hoC.ns (N₄ (C, oC) (List.mem_cons_of_mem _ List.mem_cons_self)).1).sameBut hs₅ (Ne.symm eDC), fun p hp => ?_⟩
        · exact Nat.le_trans htk (Nat.le_trans hle (Nat.le_trans (Nat.le_add_right ..) hle₄))
        · rcases Nat.lt_or_ge i' ys.length with hl | hl
          · rw [List.getElem?_append_left hl] at e
            exact hR i' y' e
          · rw [List.getElem?_append_right hl] at e
            have h0 : i' - ys.length = 0 := by
              rcases hz : i' - ys.length with _ | z
              · rfl
              · rw [hz] at e; simp at e
            rw [h0] at e
            simp at e
            have : i' = i := by (first | lia | omega)
            subst this
            exact e ▸ hRy
        · refine hst₃.at fun o e => ?_
          rw [heI] at e
          cases e
          exact hs₅.extBut _ _ eID (N₄ (I, oI) List.mem_cons_self).1
        · rcases List.mem_cons.mp hp with rfl | hp
          · exact ⟨hD₅.trans (congrArg some (lst_snoc ys y)), Ne.symm eLD, nD⟩
          · have z := N₄ p (List.mem_cons_of_mem _ (List.mem_cons_of_mem _ (List.mem_cons_of_mem _ hp)))
            exact ⟨hs₅.extBut _ _ (hneD p hp) z.1, z.2⟩
      · obtain rfl : i = vs.length := Nat.le_antisymm hi hge
        refine any_toks (W.done _ _ _ ⟨by simpa using hst, hax'⟩ fun h₂ tk₂ hk₂ hle => ?_)
        have kI : ∀ b o, b ∉ [I] → h'.get? b = some o → h₂.get? b = some o := hk₂
        refine fin D C h₂ tk₂ ys (Nat.le_trans htk hle) hyl hR (fr_but F' kI hIL hI₀) (news_but N' kI fun p hp => ?_) off3.one ⟨_, hn'.at' fun o e => kI _ o (by simpa using Ne.symm eIC) e⟩ nC (Ne.symm eLC) (Ne.symm eDC) hneC
        rcases List.mem_cons.mp hp with rfl | hp
        · show D ≠ I; (first | lia | omega)
        · exact off p hp
    · rcases List.mem_cons.mp hp with rfl | hp
      · exact ⟨hacc, Ne.symm eLD, nD⟩
      · exact ⟨old _ _ (N p hp).1, (N p hp).2⟩
  exact codeAny_compStart_list (loop _ rfl) (W.self 0 _ _ _ ⟨hI.at fun o e => old _ _ e, (PySem.IsL.isList (n := k) (N _ hm).1).at fun o e => old _ _ e⟩ (loop _ rfl))
theorem ListComp_T {elt iter : Expr} {x : Str} {px : Pos} {scope : Scope} {cl : List (Str × Addr)} {pos : Pos} {Q : Value → Shared → Prop} (R : Nat → Value → Prop) (_F₀ : Fr h₀ L s.heap m)
    (hclos : closureFor scope env = pure cl) (hcell : ∀ y ∈ scope.names, y.2 ≠ .cell) (hkind : scope.kind = .function)
    (hnames : ∀ y ∈ scope.names, y.2 = .local → scope.names.lookup y.1 = some .local) (hx : scope.names.lookup x = some .local)
    (h : wpAny (model prog w) A (eval iter env) (fun xv s₁ => ∃ (ax : Addr) (vs : List Value) (k : Nat) (news : Led), xv = .ref ax ∧ A.handled = none ∧ Fr h₀ L s₁.heap m ∧ News h₀ L s₁.heap news ∧ (ax, listOf (List.toArray vs) k) ∈ news ∧ vs.length ≤ 1000 ∧
      (∀ i v I oI C oC D m₂ h tk ys (E' : Value → Shared → Prop), vs[i]? = some v → s₁.toks ≤ tk → NsObj oC m₂ → m₂ x = some v → Fr h₀ L h m → News h₀ L h ((I, oI) :: (C, oC) :: (D, lst ys) :: news) → Off3 I C D news → ((@Ne Nat I C) ∧ (@Ne Nat I D) ∧ (@Ne Nat C D)) →
        wpAny (model prog w) A (eval elt (compEnvC scope cl C env)) (ElT h₀ L m { s₁ with heap := h, toks := tk } ((I, oI) :: (C, oC) :: (D, lst ys) :: news) (R i)) E' { s₁ with heap := h, toks := tk }) ∧
      (∀ D h tk ys, s₁.toks ≤ tk → ys.length = vs.length → (∀ i y, ys[i]? = some y → R i y) → Fr h₀ L h m → News h₀ L h ((D, lst ys) :: news) → Off1 D news → Q (.ref D) { s₁ with heap := h, toks := tk })) E s)
    (hs : ∀ x, foldedSetIterable iter env x = pure x := by intro _; rfl) :
    wpAny (model prog w) A (eval (.ListComp elt [⟨.Name x px, iter, [], 0⟩] scope pos) env) Q E s := by
  rw [eval_ListComp]
  refine wpAny_comprehension_free (use := none) rfl hs hclos hkind hnames (wpAny_mono h (fun xv s₁ h₁ => ?_) fun _ _ e => e)
  obtain ⟨ax, vs, k, news, rfl, hh, F, N, hm, hlen, turn, fin⟩ := h₁
  have hl : s₁.heap.IsList ax vs.toArray := PySem.IsL.isList (n := k) (N _ hm).1
  refine wpAny_pyIter_list hl ?_
  have up : ∀ b o, s₁.heap.get? b = some o → (s₁.heap.push { cls := .type "list_iterator", data := .fields #[.ref ax, .int 0 0] }).get? b = some o := fun b o e => Heap.get?_push_of_some _ e
  refine block_T (s := { s₁ with heap := s₁.heap.push { cls := .type "list_iterator", data := .fields #[.ref ax, .int 0 0] } }) (n₀ := s₁.toks) (vs := vs) (k := k) R hh hcell hkind hx (Heap.lt_size (N _ hm).1) hlen ⟨_, Heap.get?_push_size _ rfl, rfl, rfl⟩ (by show s₁.heap.objs.size < (s₁.heap.push _).objs.size; rw [Heap.size_push]; exact Nat.lt_succ_self _) hm (Nat.le_refl _)
    (F.keeps up) (N.grown up) (Nat.ne_of_lt F.ns.lt) (next_is_new F) (fun p hp => Nat.ne_of_lt (Heap.lt_size (N p hp).1)) turn ?_
  intro D C h tk ys htk hlen' hR F' N' o1 hn hC₀ hCL hCD offC
  obtain ⟨m', hn⟩ := hn
  refine ⟨m', hn, fun h'' hs'' => fin D h'' tk ys htk hlen' hR (F'.change hs'' hCL hC₀) (fun p hp => ?_) o1⟩
  refine ⟨hs''.extBut _ _ ?_ (N' p hp).1, (N' p hp).2⟩
  rcases List.mem_cons.mp hp with rfl | hp
  · exact Ne.symm hCD
  · exact offC p hp
theorem Assign_ListComp_T {elt iter : Expr} {x y : Str} {px py : Pos} {scope : Scope} {cl : List (Str × Addr)} {pos spos : Pos} {Q : Flow → Shared → Prop} (R : Nat → Value → Prop) (_F₀ : Fr h₀ env.locals s.heap m)
    (hsw : swapsWith (.ListComp elt [⟨.Name x px, iter, [], 0⟩] scope pos) (some (.Name y py)) spos.line env = pure true)
    (hclos : closureFor scope env = pure cl) (hcell : ∀ y ∈ scope.names, y.2 ≠ .cell) (hkind : scope.kind = .function)
    (hnames : ∀ y ∈ scope.names, y.2 = .local → scope.names.lookup y.1 = some .local) (hx : scope.names.lookup x = some .local)
    (hy : env.kindOf y = some .local) (hp : (env.scope.kind == .class || (env.scope.kind == .module && env.locals != env.globals)) = false)
    (h : wpAny (model prog w) A (eval iter env) (fun xv s₁ => ∃ (ax : Addr) (vs : List Value) (k : Nat) (news : Led), xv = .ref ax ∧ A.handled = none ∧ Fr h₀ env.locals s₁.heap m ∧ News h₀ env.locals s₁.heap news ∧ (ax, listOf (List.toArray vs) k) ∈ news ∧ vs.length ≤ 1000 ∧
      (∀ i v I oI C oC D m₂ h tk ys (E' : Value → Shared → Prop), vs[i]? = some v → s₁.toks ≤ tk → NsObj oC m₂ → m₂ x = some v → Fr h₀ env.locals h m → News h₀ env.locals h ((I, oI) :: (C, oC) :: (D, lst ys) :: news) → Off3 I C D news → ((@Ne Nat I C) ∧ (@Ne Nat I D) ∧ (@Ne Nat C D)) →
        wpAny (model prog w) A (eval elt (compEnvC scope cl C env)) (ElT h₀ env.locals m { s₁ with heap := h, toks := tk } ((I, oI) :: (C, oC) :: (D, lst ys) :: news) (R i)) E' { s₁ with heap := h, toks := tk }) ∧
      (∀ D h tk ys, s₁.toks ≤ tk → ys.length = vs.length → (∀ i y, ys[i]? = some y → R i y) → Fr h₀ env.locals h (fun z => if z = y then some (.ref D) else m z) → News h₀ env.locals h ((D, lst ys) :: news) → Off1 D news → Q .next { s₁ with heap := h, toks := tk })) E s)
    (hs : ∀ x, foldedSetIterable iter env x = pure x := by intro _; rfl) :
    wpAny (model prog w) A (exec (.Assign [.Name y py] (.ListComp elt [⟨.Name x px, iter, [], 0⟩] scope pos) spos) env) Q E s := by
  rw [exec_Assign_Name_used _ _ _ _ hsw]
  refine wpAny_bind (wpAny_standAt (wpAny_bind ?_))
  show wpAny _ A (do let _ ← comprehension (.ListComp elt [⟨.Name x px, iter, [], 0⟩] scope pos) scope env _ (newList []) false (eval iter env) (some (assign (.Name y py) env))) _ _ s
  refine wpAny_bind (wpAny_mono (wpAny_comprehension_free (use := some (assign (.Name y py) env)) (Q := fun _ s' => Q .next s') rfl hs hclos hkind hnames
    (wpAny_mono h (fun xv s₁ h₁ => ?_) fun _ _ e => e)) (fun _ s' hq => wpAny_pure (wpAny_pure hq)) fun _ _ e => e)
  obtain ⟨ax, vs, k, news, rfl, hh, F, N, hm, hlen, turn, fin⟩ := h₁
  have hl : s₁.heap.IsList ax vs.toArray := PySem.IsL.isList (n := k) (N _ hm).1
  refine wpAny_pyIter_list hl ?_
  have up : ∀ b o, s₁.heap.get? b = some o → (s₁.heap.push { cls := .type "list_iterator", data := .fields #[.ref ax, .int 0 0] }).get? b = some o := fun b o e => Heap.get?_push_of_some _ e
  refine block_T (s := { s₁ with heap := s₁.heap.push { cls := .type "list_iterator", data := .fields #[.ref ax, .int 0 0] } }) (n₀ := s₁.toks) (vs := vs) (k := k) R hh hcell hkind hx (Heap.lt_size (N _ hm).1) hlen ⟨_, Heap.get?_push_size _ rfl, rfl, rfl⟩ (by show s₁.heap.objs.size < (s₁.heap.push _).objs.size; rw [Heap.size_push]; exact Nat.lt_succ_self _) hm (Nat.le_refl _)
    (F.keeps up) (N.grown up) (Nat.ne_of_lt F.ns.lt) (next_is_new F) (fun p hp => Nat.ne_of_lt (Heap.lt_size (N p hp).1)) turn ?_
  intro D C h' tk ys htk hlen' hR F' N' o1 hn hC₀ hCL hCD offC
  obtain ⟨m', hn⟩ := hn
  show wpAny _ A (assign (.Name y py) env (.ref D)) _ _ _
  refine wpAny_assign_Name (wpAny_storeName_local hy F'.ns (fun h₂ hn₂ hs₂ => ?_) hp)
  have F₂ := F'.set hn₂ hs₂
  refine ⟨m', hn.sameBut hs₂ hCL, fun h'' hs'' => fin D h'' _ ys (Nat.le_trans htk (Nat.le_add_right ..)) hlen' hR (F₂.change hs'' hCL hC₀) (fun p hp => ?_) o1⟩
  have z : h₂.get? p.1 = some p.2 := hs₂.extBut _ _ (N' p hp).2.1 (N' p hp).1
  refine ⟨hs''.extBut _ _ ?_ z, (N' p hp).2⟩
  rcases List.mem_cons.mp hp with rfl | hp
  · exact Ne.symm hCD
  · exact offC p hp
end
end Mine
end

section
open PySem PySem.W PyProof.Rows
set_option maxRecDepth 100000
namespace Mine
noncomputable def b1mem (c : Int) : Bool := setL.any fun e => Value.isInt c e.2
theorem setL_ok : (setL.all fun e => Value.isInt e.1 e.2 && (e.1 == hashInt e.1) && e.2.scannable) = true := by decide +kernel
theorem set78 {prog : Program} {w : World} {P : Params} {h : Heap} (ho : h.get? 78 = some (setO P)) : h.SetOf (intKind prog w) 78 b1mem 27 := by
  refine ⟨setO P, setL.toArray, 29, _, ho, ⟨rfl, rfl, rfl⟩, rfl, ?_, ?_, by decide, (by decide : ∀ b, (setT b).fits setL.toArray.size = true) _, by decide⟩
  · intro e he
    have := List.all_eq_true.mp setL_ok e (by simpa using he)
    simp only [Bool.and_eq_true, beq_iff_eq] at this
    exact ⟨⟨e.1, this.1.1, this.1.2⟩, this.2⟩
  · intro k
    show (setL.any fun e => Value.isInt k e.2) = true ↔ _
    rw [List.any_eq_true]
    simp [intKind]
theorem in_b1 {w : World} {A : Around} {E : Value → Shared → Prop} {s : Shared} {c : Int} {t : Tok} {Q : Value → Shared → Prop} (X : (KK w.params).In s.heap) (h : Q (.bool (b1mem c)) { s with toks := s.toks + 1 }) :
    wpAny (model r0.prog w) A (compareOp .In (.int c t) (.ref 78)) Q E s :=
  wpAny_inSet_of (intKind_is _ _ _ _) rfl (set78 (X 78 _ rfl)) h
noncomputable def b3f (c : Int) : Option Value := findBy Value.isInt b3L.toArray c
theorem b3L_ok : (b3L.all fun e => Value.isInt e.hash e.key && (e.hash == hashInt e.hash)) = true := by decide +kernel
theorem map89 {prog : Program} {w : World} {h : Heap} (ho : h.get? 89 = some b3O) : h.MapOf (intKind prog w) 89 b3f := by
  refine ⟨b3O, b3L.toArray, _, ho, ⟨rfl, rfl, rfl⟩, rfl, ?_, fun k => rfl⟩
  intro e he
  have := List.all_eq_true.mp b3L_ok e (by simpa using he)
  simp only [Bool.and_eq_true, beq_iff_eq] at this
  exact ⟨e.hash, this.1, this.2⟩
theorem get_b3 {w : World} {A : Around} {E : Value → Shared → Prop} {s : Shared} {c : Int} {t : Tok} {v : Value} {Q : Value → Shared → Prop} (X : (KK w.params).In s.heap) (hv : (b3f c).getD .none = v) (h : Q v { s with toks := s.toks + 1 }) :
    wpAny (model r0.prog w) A (call (.builtin "dict.get") [.ref 89, .int c t]) Q E s :=
  call_meetsIn PySem.F.slot_dict_get ⟨b3O, X 89 _ rfl, rfl⟩ PySem.F.entry_dict_get (PySem.F.args_dict_get_2 _ _) (meets_dict_get (intKind r0.prog w) 89 (intKind_is _ _ _ _) (by decide)) ⟨_, map89 (X 89 _ rfl), by rw [hv]; exact h⟩
theorem meth_b3 {w : World} {A : Around} {E : Value → Shared → Prop} {s : Shared} {pl : Sem Bool} {Q : Value × List Value → Shared → Prop} (X : (KK w.params).In s.heap) (h : Q (.builtin "dict.get", [.ref 89]) s) : wpAny (model r0.prog w) A (getMethod (.ref 89) (Str.ofString "get") pl) Q E s :=
  getMethod_builtin ⟨b3O, X 89 _ rfl, rfl⟩ PySem.F.plainAttrs_dict PySem.F.slot_dict_get PySem.F.type_dict_get (fun b e => by injection e with e; subst e; exact ⟨b3O, X 89 _ rfl, rfl⟩) h
end Mine
end

section
open PySem PySem.W PyProof.Rows Mine
local macro_rules | `(tactic| walk_at "subscriptTail Name Slice str ref") => `(tactic| ((with_reducible rename Fr _ _ _ _ => F'); (with_reducible rename News _ _ _ _ => N'); (refine slice_strN_nn (hsz := ?hsz) (s := ⟨_, _, _, _, _⟩) F' N' ?_); (case hsz => size_fits); intro _ _ _ _ _))
local macro_rules | `(tactic| walk_at "truthy str") => `(tactic| refine SBL.truthy (by (first | lia | omega)) ?_)

section
open PySem PySem.W PyProof.Rows Mine
local macro_rules | `(tactic| walk_at "eval Name") => `(tactic| (k_here; k_dflt (refine' ld ?zF ?zv ?_; (case zF => k_asm); (case zv => assumption); k_whole)))
local macro_rules | `(tactic| walk_at "loadName") => `(tactic| (k_here; k_dflt (refine' ldn ?zF ?zv ?_; (case zF => k_asm); (case zv => assumption); k_whole)))

section
open PySem PySem.W PyProof.Rows
set_option maxRecDepth 100000
namespace Mine
-- a local whose value a fact tells

set_option maxHeartbeats 4000000 in
theorem add_ok (w : World) (x y : Int) (tx ty : Tok) : ClN 2 w 42 [.int x tx, .int y ty] fun v new => ∃ t, new = [] ∧ v = .int (x + y) t := by
  delta ClN
  k_fill
  intro dp un gd cn cs a ccd cl outer A₀ base h₀ L m news s Q E mean mg mb B F X N T hk hd hu hret
  refine wpAny_call ?_
  refine' code_def (binds := [(Str.ofString "a", .int x tx), (Str.ofString "b", .int y ty)]) ?k1 ?k2 ?k3 ?k4 ?k5 ?kA ?kF ?kK ?k6 ?k7 ?k8 ?k9 ?kB ?_ ?c2 ?c3 ?c4 ?c5
  k_dflt (( (case k1 => k_asm); (case k2 => k_asm); (case k3 => k_asm); (case k4 => k_asm); (case k5 => k_asm); (case kA => exact rfl); (case kF => exact rfl); (case kK => assumption); (case k6 => k_is); (case k7 => k_is); (case k8 => ktr_room); (case k9 => exact BindsTo.of_eq rfl); (case c5 => decide); (case kB => exact locs rfl); (case c2 => exact rfl); (case c3 => exact rfl); (case c4 => exact rfl); k_whole; intro qg' qL' qh' qFG' qF' qN' qB' qX' qT'; dsimp only [List.reverse, List.reverseAux] at qF'; (try dsimp only); (try k_lift qB'); (try k_fold)))
  (repeat' ( (fail_if_success (with_reducible show wpAny _ _ (exec (Stmt.While _ _ _ _) _) _ _ _)); (fail_if_success (with_reducible show wpAny _ _ (exec (Stmt.For _ _ _ _ _) _) _ _ _)); (first | ((with_reducible show wpAny _ _ (call (Value.builtin "hasattr") _) _ _ _); (k_here; (with_reducible rename Fr _ _ _ _ => kF); (with_reducible rename News _ _ _ _ => kN); refine hasattr_getitem ?_; intro qo' qk'; have kF2 := Fr.pushS kF qo'; have kN2 := News.pushKeep kN qo'; clear kF kN; (try dsimp only at kF2 kN2))) | ((with_reducible show wpAny _ _ (binaryOp Operator.Mult (Value.int _ _) (Value.int _ _)) _ _ _); (refine PyProof.Rows.mul_int (hm := by assumption) ?_)) | (k_unfold; (try dsimp only)) | (k_end; wrow_close) | walk1 | (dsimp only; walk1) | (leave1; walk_say "STEP leave1"; try dsimp only) | fail "no step")))
  · refine hret _ [] _ _ ⟨_, rfl, rfl⟩ ?zf ?zn
    case zf => k_asm
    case zn => k_asm
set_option maxHeartbeats 4000000 in
theorem mul_ok (w : World) (x y : Int) (tx ty : Tok) (hx : x = 1 ∨ x = 2) : ClN 2 w 49 [.int x tx, .int y ty] fun v new => ∃ t, new = [] ∧ v = .int (x * y) t := by
  delta ClN
  k_fill
  intro dp un gd cn cs a ccd cl outer A₀ base h₀ L m news s Q E mean mg mb B F X N T hk hd hu hret
  have hmul : IntMulOk x y := IntMulOk.of_left (by rcases hx with rfl | rfl <;> decide)
  refine wpAny_call ?_
  refine' code_def (binds := [(Str.ofString "a", .int x tx), (Str.ofString "b", .int y ty)]) ?k1 ?k2 ?k3 ?k4 ?k5 ?kA ?kF ?kK ?k6 ?k7 ?k8 ?k9 ?kB ?_ ?c2 ?c3 ?c4 ?c5
  k_dflt (( (case k1 => k_asm); (case k2 => k_asm); (case k3 => k_asm); (case k4 => k_asm); (case k5 => k_asm); (case kA => exact rfl); (case kF => exact rfl); (case kK => assumption); (case k6 => k_is); (case k7 => k_is); (case k8 => ktr_room); (case k9 => exact BindsTo.of_eq rfl); (case c5 => decide); (case kB => exact locs rfl); (case c2 => exact rfl); (case c3 => exact rfl); (case c4 => exact rfl); k_whole; intro qg' qL' qh' qFG' qF' qN' qB' qX' qT'; dsimp only [List.reverse, List.reverseAux] at qF'; (try dsimp only); (try k_lift qB'); (try k_fold)))
  (repeat' ( (fail_if_success (with_reducible show wpAny _ _ (exec (Stmt.While _ _ _ _) _) _ _ _)); (fail_if_success (with_reducible show wpAny _ _ (exec (Stmt.For _ _ _ _ _) _) _ _ _)); (first | ((with_reducible show wpAny _ _ (call (Value.builtin "hasattr") _) _ _ _); (k_here; (with_reducible rename Fr _ _ _ _ => kF); (with_reducible rename News _ _ _ _ => kN); refine hasattr_getitem ?_; intro qo' qk'; have kF2 := Fr.pushS kF qo'; have kN2 := News.pushKeep kN qo'; clear kF kN; (try dsimp only at kF2 kN2))) | ((with_reducible show wpAny _ _ (binaryOp Operator.Mult (Value.int _ _) (Value.int _ _)) _ _ _); (refine PyProof.Rows.mul_int (hm := by assumption) ?_)) | (k_unfold; (try dsimp only)) | (k_end; wrow_close) | walk1 | (dsimp only; walk1) | (leave1; walk_say "STEP leave1"; try dsimp only) | fail "no step")))
  · refine hret _ [] _ _ ⟨_, rfl, rfl⟩ ?zf ?zn
    case zf => k_asm
    case zn => k_asm
set_option maxHeartbeats 4000000 in
theorem subt_ok (w : World) (x y : Int) (tx ty : Tok) : ClN 2 w 56 [.int x tx, .int y ty] fun v new => ∃ t, new = [] ∧ v = .int (x - y) t := by
  delta ClN
  k_fill
  intro dp un gd cn cs a ccd cl outer A₀ base h₀ L m news s Q E mean mg mb B F X N T hk hd hu hret
  refine wpAny_call ?_
  refine' code_def (binds := [(Str.ofString "a", .int x tx), (Str.ofString "b", .int y ty)]) ?k1 ?k2 ?k3 ?k4 ?k5 ?kA ?kF ?kK ?k6 ?k7 ?k8 ?k9 ?kB ?_ ?c2 ?c3 ?c4 ?c5
  k_dflt (( (case k1 => k_asm); (case k2 => k_asm); (case k3 => k_asm); (case k4 => k_asm); (case k5 => k_asm); (case kA => exact rfl); (case kF => exact rfl); (case kK => assumption); (case k6 => k_is); (case k7 => k_is); (case k8 => ktr_room); (case k9 => exact BindsTo.of_eq rfl); (case c5 => decide); (case kB => exact locs rfl); (case c2 => exact rfl); (case c3 => exact rfl); (case c4 => exact rfl); k_whole; intro qg' qL' qh' qFG' qF' qN' qB' qX' qT'; dsimp only [List.reverse, List.reverseAux] at qF'; (try dsimp only); (try k_lift qB'); (try k_fold)))
  (repeat' ( (fail_if_success (with_reducible show wpAny _ _ (exec (Stmt.While _ _ _ _) _) _ _ _)); (fail_if_success (with_reducible show wpAny _ _ (exec (Stmt.For _ _ _ _ _) _) _ _ _)); (first | ((with_reducible show wpAny _ _ (call (Value.builtin "hasattr") _) _ _ _); (k_here; (with_reducible rename Fr _ _ _ _ => kF); (with_reducible rename News _ _ _ _ => kN); refine hasattr_getitem ?_; intro qo' qk'; have kF2 := Fr.pushS kF qo'; have kN2 := News.pushKeep kN qo'; clear kF kN; (try dsimp only at kF2 kN2))) | ((with_reducible show wpAny _ _ (binaryOp Operator.Mult (Value.int _ _) (Value.int _ _)) _ _ _); (refine PyProof.Rows.mul_int (hm := by assumption) ?_)) | (k_unfold; (try dsimp only)) | (k_end; wrow_close) | walk1 | (dsimp only; walk1) | (leave1; walk_say "STEP leave1"; try dsimp only) | fail "no step")))
  · refine hret _ [] _ _ ⟨_, rfl, rfl⟩ ?zf ?zn
    case zf => k_asm
    case zn => k_asm
set_option maxHeartbeats 4000000 in
theorem gt_ok (w : World) (x y : Int) (tx ty : Tok) : ClN 2 w 35 [.int x tx, .int y ty] fun v new => new = [] ∧ v = .bool (decide (y < x)) := by
  delta ClN
  k_fill
  intro dp un gd cn cs a ccd cl outer A₀ base h₀ L m news s Q E mean mg mb B F X N T hk hd hu hret
  refine wpAny_call ?_
  refine' code_def (binds := [(Str.ofString "a", .int x tx), (Str.ofString "b", .int y ty)]) ?k1 ?k2 ?k3 ?k4 ?k5 ?kA ?kF ?kK ?k6 ?k7 ?k8 ?k9 ?kB ?_ ?c2 ?c3 ?c4 ?c5
  k_dflt (( (case k1 => k_asm); (case k2 => k_asm); (case k3 => k_asm); (case k4 => k_asm); (case k5 => k_asm); (case kA => exact rfl); (case kF => exact rfl); (case kK => assumption); (case k6 => k_is); (case k7 => k_is); (case k8 => ktr_room); (case k9 => exact BindsTo.of_eq rfl); (case c5 => decide); (case kB => exact locs rfl); (case c2 => exact rfl); (case c3 => exact rfl); (case c4 => exact rfl); k_whole; intro qg' qL' qh' qFG' qF' qN' qB' qX' qT'; dsimp only [List.reverse, List.reverseAux] at qF'; (try dsimp only); (try k_lift qB'); (try k_fold)))
  (repeat' ( (fail_if_success (with_reducible show wpAny _ _ (exec (Stmt.While _ _ _ _) _) _ _ _)); (fail_if_success (with_reducible show wpAny _ _ (exec (Stmt.For _ _ _ _ _) _) _ _ _)); (first | ((with_reducible show wpAny _ _ (call (Value.builtin "hasattr") _) _ _ _); (k_here; (with_reducible rename Fr _ _ _ _ => kF); (with_reducible rename News _ _ _ _ => kN); refine hasattr_getitem ?_; intro qo' qk'; have kF2 := Fr.pushS kF qo'; have kN2 := News.pushKeep kN qo'; clear kF kN; (try dsimp only at kF2 kN2))) | ((with_reducible show wpAny _ _ (binaryOp Operator.Mult (Value.int _ _) (Value.int _ _)) _ _ _); (refine PyProof.Rows.mul_int (hm := by assumption) ?_)) | (k_unfold; (try dsimp only)) | (k_end; wrow_close) | walk1 | (dsimp only; walk1) | (leave1; walk_say "STEP leave1"; try dsimp only) | fail "no step")))
  · refine hret _ [] _ _ ⟨rfl, rfl⟩ ?zf ?zn
    case zf => k_asm
    case zn => k_asm
set_option maxHeartbeats 4000000 in
theorem concat_ok (w : World) (x y : Str) (tx ty : Tok) (hx : x.length ≤ 100) (hy : y.length ≤ 100) : ClN 2 w 63 [.str x tx, .str y ty] fun v new => ∃ t, new = [] ∧ v = .str (x ++ y) t := by
  delta ClN
  k_fill
  intro dp un gd cn cs a ccd cl outer A₀ base h₀ L m news s Q E mean mg mb B F X N T hk hd hu hret
  refine wpAny_call ?_
  refine' code_def (binds := [(Str.ofString "a", .str x tx), (Str.ofString "b", .str y ty)]) ?k1 ?k2 ?k3 ?k4 ?k5 ?kA ?kF ?kK ?k6 ?k7 ?k8 ?k9 ?kB ?_ ?c2 ?c3 ?c4 ?c5
  k_dflt (( (case k1 => k_asm); (case k2 => k_asm); (case k3 => k_asm); (case k4 => k_asm); (case k5 => k_asm); (case kA => exact rfl); (case kF => exact rfl); (case kK => assumption); (case k6 => k_is); (case k7 => k_is); (case k8 => ktr_room); (case k9 => exact BindsTo.of_eq rfl); (case c5 => decide); (case kB => exact locs rfl); (case c2 => exact rfl); (case c3 => exact rfl); (case c4 => exact rfl); k_whole; intro qg' qL' qh' qFG' qF' qN' qB' qX' qT'; dsimp only [List.reverse, List.reverseAux] at qF'; (try dsimp only); (try k_lift qB'); (try k_fold)))
  (repeat' ( (fail_if_success (with_reducible show wpAny _ _ (exec (Stmt.While _ _ _ _) _) _ _ _)); (fail_if_success (with_reducible show wpAny _ _ (exec (Stmt.For _ _ _ _ _) _) _ _ _)); (first | ((with_reducible show wpAny _ _ (call (Value.builtin "hasattr") _) _ _ _); (k_here; (with_reducible rename Fr _ _ _ _ => kF); (with_reducible rename News _ _ _ _ => kN); refine hasattr_getitem ?_; intro qo' qk'; have kF2 := Fr.pushS kF qo'; have kN2 := News.pushKeep kN qo'; clear kF kN; (try dsimp only at kF2 kN2))) | ((with_reducible show wpAny _ _ (binaryOp Operator.Mult (Value.int _ _) (Value.int _ _)) _ _ _); (refine PyProof.Rows.mul_int (hm := by assumption) ?_)) | (k_unfold; (try dsimp only)) | (k_end; wrow_close) | walk1 | (dsimp only; walk1) | (leave1; walk_say "STEP leave1"; try dsimp only) | fail "no step")))
  · refine hret _ [] _ _ ⟨_, rfl, rfl⟩ ?zf ?zn
    case zf => k_asm
    case zn => k_asm
set_option maxHeartbeats 4000000 in
theorem above_ok (w : World) (x : Int) (tx : Tok) : ClN 4 w 179 [.int x tx] fun v new => ∃ t, new = [] ∧ v = .int (if 0 < x then x else 0) t := by
  delta ClN
  k_fill
  intro dp un gd cn cs a ccd cl outer A₀ base h₀ L m news s Q E mean mg mb B F X N T hk hd hu hret
  refine wpAny_call ?_
  refine' code_def (binds := [(Str.ofString "step", .int x tx)]) ?k1 ?k2 ?k3 ?k4 ?k5 ?kA ?kF ?kK ?k6 ?k7 ?k8 ?k9 ?kB ?_ ?c2 ?c3 ?c4 ?c5
  k_dflt (( (case k1 => k_asm); (case k2 => k_asm); (case k3 => k_asm); (case k4 => k_asm); (case k5 => k_asm); (case kA => exact rfl); (case kF => exact rfl); (case kK => assumption); (case k6 => k_is); (case k7 => k_is); (case k8 => ktr_room); (case k9 => exact BindsTo.of_eq rfl); (case c5 => decide); (case kB => exact locs rfl); (case c2 => exact rfl); (case c3 => exact rfl); (case c4 => exact rfl); k_whole; intro qg' qL' qh' qFG' qF' qN' qB' qX' qT'; dsimp only [List.reverse, List.reverseAux] at qF'; (try dsimp only); (try k_lift qB'); (try k_fold)))
  (repeat' ( (fail_if_success (with_reducible show wpAny _ _ (exec (Stmt.While _ _ _ _) _) _ _ _)); (fail_if_success (with_reducible show wpAny _ _ (exec (Stmt.For _ _ _ _ _) _) _ _ _)); (first | ((with_reducible show wpAny _ _ (call (Value.ref 56) _) _ _ _); (k_here; refine' useV (subt_ok _ _ _ _ _) ?kB ?kF ?kX ?kN ?kT ?kk ?kd ?ku ?_; (((case kB => k_asm); (case kF => k_asm); (case kX => k_asm); (case kN => k_asm); (case kT => k_asm); (case kk => first | assumption | exact rfl); (case kd => first | (first | lia | omega) | ((try simp only [depth_deeper]); (first | lia | omega)) | ktr_room); (case ku => first | (first | lia | omega) | ((try simp only [units_deeper]); (first | lia | omega)) | ktr_units))); ((intro qh' qtk' qt' qF' qN')))) | ((with_reducible show wpAny _ _ (call (Value.ref 42) _) _ _ _); (k_here; refine' useV (add_ok _ _ _ _ _) ?kB ?kF ?kX ?kN ?kT ?kk ?kd ?ku ?_; (((case kB => k_asm); (case kF => k_asm); (case kX => k_asm); (case kN => k_asm); (case kT => k_asm); (case kk => first | assumption | exact rfl); (case kd => first | (first | lia | omega) | ((try simp only [depth_deeper]); (first | lia | omega)) | ktr_room); (case ku => first | (first | lia | omega) | ((try simp only [units_deeper]); (first | lia | omega)) | ktr_units))); ((intro qh' qtk' qt' qF' qN')))) | ((with_reducible show wpAny _ _ (call (Value.ref 35) _) _ _ _); (k_here; refine' useB (gt_ok _ _ _ _ _) ?kB ?kF ?kX ?kN ?kT ?kk ?kd ?ku ?_; (((case kB => k_asm); (case kF => k_asm); (case kX => k_asm); (case kN => k_asm); (case kT => k_asm); (case kk => first | assumption | exact rfl); (case kd => first | (first | lia | omega) | ((try simp only [depth_deeper]); (first | lia | omega)) | ktr_room); (case ku => first | (first | lia | omega) | ((try simp only [units_deeper]); (first | lia | omega)) | ktr_units))); (intro qh' qtk' qF' qN'))) | ((with_reducible show wpAny _ _ (call (Value.builtin "hasattr") _) _ _ _); (k_here; (with_reducible rename Fr _ _ _ _ => kF); (with_reducible rename News _ _ _ _ => kN); refine hasattr_getitem ?_; intro qo' qk'; have kF2 := Fr.pushS kF qo'; have kN2 := News.pushKeep kN qo'; clear kF kN; (try dsimp only at kF2 kN2))) | ((with_reducible show wpAny _ _ (binaryOp Operator.Mult (Value.int _ _) (Value.int _ _)) _ _ _); (refine PyProof.Rows.mul_int (hm := by assumption) ?_)) | (k_unfold; (try dsimp only)) | (k_end; wrow_close) | walk1 | (dsimp only; walk1) | (leave1; walk_say "STEP leave1"; try dsimp only) | fail "no step")))
  · refine hret _ [] _ _ (ret_int (if_pos (by simpa using (by assumption : (decide (0 < x) == true) = true)))) ?zf ?zn
    case zf => k_asm
    case zn => k_asm
  · refine hret _ [] _ _ (ret_int (if_neg (by simpa using (by assumption : (decide (0 < x) == true) = false)))) ?zf ?zn
    case zf => k_asm
    case zn => k_asm

end Mine
end

section
open PySem PySem.W PyProof.Rows
set_option maxRecDepth 100000
namespace Mine
-- a local whose value a fact tells

noncomputable def uns1 : List Int := [173, 847, 6150, 6155, 6156, 6157, 8203, 8204, 8205, 8288, 65279]
noncomputable def unseenCp (k : Int) : Int := if k < 11 then uns1.getD k.toNat 0 else 65013 + k
theorem uns_ok : ∀ n : Nat, n < 11 → (decide (uns1.getD n 0 < 0) || decide (uns1.getD n 0 > 0x10FFFF)) = false := by decide
noncomputable def mathL : List Int := [0, 1, 2, 4, 7, 8, 9, 10, 11, 12]
theorem math_ok : ∀ n : Nat, n < 10 → 0 ≤ mathL.getD n 0 ∧ mathL.getD n 0 ≤ 12 := by decide
noncomputable def formCp (c : Nat) (k : Int) : Int := if k = 0 then c else if k = 1 then c - 32 else 119808 + 52 * mathL.getD (k - 2).toNat 0 + c - 97
theorem ret_str {a b : Str} {t : Tok} (h : b = a) : ∃ t', ([] : Led) = [] ∧ Value.str a t = Value.str b t' := ⟨t, rfl, by rw [h]⟩
set_option maxHeartbeats 8000000 in
theorem unseen_ok (w : World) (k : Int) (tk : Tok) (h0 : 0 ≤ k) (h1 : k < 27) : ClN 2 w 148 [.int k tk] fun v new => ∃ t, new = [] ∧ v = .str ⟨#[(unseenCp k).toNat]⟩ t := by
  delta ClN
  k_fill
  intro dp un gd cn cs a ccd cl outer A₀ base h₀ L m news s Q E mean mg mb B F X N T hk hd hu hret
  refine wpAny_call ?_
  refine' code_def (binds := [(Str.ofString "k", .int k tk)]) ?k1 ?k2 ?k3 ?k4 ?k5 ?kA ?kF ?kK ?k6 ?k7 ?k8 ?k9 ?kB ?_ ?c2 ?c3 ?c4 ?c5
  k_dflt (( (case k1 => k_asm); (case k2 => k_asm); (case k3 => k_asm); (case k4 => k_asm); (case k5 => k_asm); (case kA => exact rfl); (case kF => exact rfl); (case kK => assumption); (case k6 => k_is); (case k7 => k_is); (case k8 => ktr_room); (case k9 => exact BindsTo.of_eq rfl); (case c5 => decide); (case kB => exact locs rfl); (case c2 => exact rfl); (case c3 => exact rfl); (case c4 => exact rfl); k_whole; intro qg' qL' qh' qFG' qF' qN' qB' qX' qT'; dsimp only [List.reverse, List.reverseAux] at qF'; (try dsimp only); (try k_lift qB'); (try k_fold)))
  by_cases hk11 : k < 11
  · have hc := uns_ok k.toNat (by (first | lia | omega))
    (repeat' ( (fail_if_success (with_reducible show wpAny _ _ (exec (Stmt.While _ _ _ _) _) _ _ _)); (fail_if_success (with_reducible show wpAny _ _ (exec (Stmt.For _ _ _ _ _) _) _ _ _)); (first | ((with_reducible show wpAny _ _ (call (Value.builtin "chr") _) _ _ _); (refine P.chr_of_int (hi := by assumption) ?_)) | (k_unfold; (try dsimp only)) | (k_end; wrow_close) | walk1 | (dsimp only; walk1) | (leave1; walk_say "STEP leave1"; try dsimp only) | fail "no step")))
    refine hret _ [] _ _ (ret_str (by rw [unseenCp, if_pos hk11]; rfl)) ?zf ?zn
    case zf => k_asm
    case zn => (first | k_asm | (refine' cb_drop ?zN ?zS; (case zN => assumption); (case zS => kcj_all)))
  · have hc : (decide (65013 + k < 0) || decide (65013 + k > 0x10FFFF)) = false := by simp; (first | lia | omega)
    (repeat' ( (fail_if_success (with_reducible show wpAny _ _ (exec (Stmt.While _ _ _ _) _) _ _ _)); (fail_if_success (with_reducible show wpAny _ _ (exec (Stmt.For _ _ _ _ _) _) _ _ _)); (first | ((with_reducible show wpAny _ _ (call (Value.builtin "chr") _) _ _ _); (refine P.chr_of_int (hi := by assumption) ?_)) | (k_unfold; (try dsimp only)) | (k_end; wrow_close) | walk1 | (dsimp only; walk1) | (leave1; walk_say "STEP leave1"; try dsimp only) | fail "no step")))
    refine hret _ [] _ _ (ret_str (by rw [unseenCp, if_neg hk11])) ?zf ?zn
    case zf => k_asm
    case zn => (first | k_asm | (refine' cb_drop ?zN ?zS; (case zN => assumption); (case zS => kcj_all)))
set_option maxHeartbeats 8000000 in
theorem form_ok (w : World) (c : Nat) (k : Int) (tk tc : Tok) (hc1 : 97 ≤ c) (hc2 : c ≤ 122) (h0 : 0 ≤ k) (h1 : k < 12) : ClN 2 w 155 [.str ⟨#[c]⟩ tc, .int k tk] fun v new => ∃ t, new = [] ∧ v = .str ⟨#[(formCp c k).toNat]⟩ t := by
  delta ClN
  k_fill
  intro dp un gd cn cs a ccd cl outer A₀ base h₀ L m news s Q E mean mg mb B F X N T hk hd hu hret
  refine wpAny_call ?_
  refine' code_def (binds := [(Str.ofString "letter", .str ⟨#[c]⟩ tc), (Str.ofString "k", .int k tk)]) ?k1 ?k2 ?k3 ?k4 ?k5 ?kA ?kF ?kK ?k6 ?k7 ?k8 ?k9 ?kB ?_ ?c2 ?c3 ?c4 ?c5
  k_dflt (( (case k1 => k_asm); (case k2 => k_asm); (case k3 => k_asm); (case k4 => k_asm); (case k5 => k_asm); (case kA => exact rfl); (case kF => exact rfl); (case kK => assumption); (case k6 => k_is); (case k7 => k_is); (case k8 => ktr_room); (case k9 => exact BindsTo.of_eq rfl); (case c5 => decide); (case kB => exact locs rfl); (case c2 => exact rfl); (case c3 => exact rfl); (case c4 => exact rfl); k_whole; intro qg' qL' qh' qFG' qF' qN' qB' qX' qT'; dsimp only [List.reverse, List.reverseAux] at qF'; (try dsimp only); (try k_lift qB'); (try k_fold)))
  rcases (by (first | lia | omega) : k = 0 ∨ k = 1 ∨ 2 ≤ k) with rfl | rfl | hk2
  · (repeat' ( (fail_if_success (with_reducible show wpAny _ _ (exec (Stmt.While _ _ _ _) _) _ _ _)); (fail_if_success (with_reducible show wpAny _ _ (exec (Stmt.For _ _ _ _ _) _) _ _ _)); (first | ((with_reducible show wpAny _ _ (call (Value.builtin "chr") _) _ _ _); (refine P.chr_of_int (hi := by assumption) ?_)) | (k_unfold; (try dsimp only)) | (k_end; wrow_close) | walk1 | (dsimp only; walk1) | (leave1; walk_say "STEP leave1"; try dsimp only) | fail "no step")))
    refine hret _ [] _ _ (ret_str (by simp [formCp])) ?zf ?zn
    case zf => k_asm
    case zn => (first | k_asm | (refine' cb_drop ?zN ?zS; (case zN => assumption); (case zS => kcj_all)))
  · have hc : (decide ((c : Int) - 32 < 0) || decide ((c : Int) - 32 > 0x10FFFF)) = false := by simp; (first | lia | omega)
    (repeat' ( (fail_if_success (with_reducible show wpAny _ _ (exec (Stmt.While _ _ _ _) _) _ _ _)); (fail_if_success (with_reducible show wpAny _ _ (exec (Stmt.For _ _ _ _ _) _) _ _ _)); (first | ((with_reducible show wpAny _ _ (call (Value.builtin "chr") _) _ _ _); (refine P.chr_of_int (hi := by assumption) ?_)) | (k_unfold; (try dsimp only)) | (k_end; wrow_close) | walk1 | (dsimp only; walk1) | (leave1; walk_say "STEP leave1"; try dsimp only) | fail "no step")))
    refine hret _ [] _ _ (ret_str (by simp [formCp])) ?zf ?zn
    case zf => k_asm
    case zn => (first | k_asm | (refine' cb_drop ?zN ?zS; (case zN => assumption); (case zS => kcj_all)))
  · have hm := math_ok (k - 2).toNat (by (first | lia | omega))
    have hc : (decide (119808 + 52 * mathL.getD (k - 2).toNat 0 + (c : Int) - 97 < 0) || decide (119808 + 52 * mathL.getD (k - 2).toNat 0 + (c : Int) - 97 > 0x10FFFF)) = false := by rw [Bool.or_eq_false_iff, decide_eq_false_iff_not, decide_eq_false_iff_not]; (first | lia | omega)
    (repeat' ( (fail_if_success (with_reducible show wpAny _ _ (exec (Stmt.While _ _ _ _) _) _ _ _)); (fail_if_success (with_reducible show wpAny _ _ (exec (Stmt.For _ _ _ _ _) _) _ _ _)); (first | ((with_reducible show wpAny _ _ (call (Value.builtin "chr") _) _ _ _); (refine P.chr_of_int (hi := by assumption) ?_)) | (k_unfold; (try dsimp only)) | (k_end; wrow_close) | walk1 | (dsimp only; walk1) | (leave1; walk_say "STEP leave1"; try dsimp only) | fail "no step")))
    all_goals try (exfalso; (first | lia | omega))
    refine hret _ [] _ _ (ret_str (by rw [formCp, if_neg (by (first | lia | omega)), if_neg (by (first | lia | omega))]; rfl)) ?zf ?zn
    case zf => k_asm
    case zn => (first | k_asm | (refine' cb_drop ?zN ?zS; (case zN => assumption); (case zS => kcj_all)))

end Mine
end

section
open PySem PySem.W PyProof.Rows
set_option maxRecDepth 100000
namespace Mine
-- a local whose value a fact tells

local macro_rules | `(tactic| walk_at "execs cons") => `(tactic| (refine wpAny_execs_cons ?_))
noncomputable abbrev ClT (k : Nat) (w : World) (f : Addr) (vs : List Value) (Pre : Nat → Led → Prop) (Post : Nat → Nat → Value → Led → Prop) : Prop :=
  ∀ (dp un : Nat) (gd : Option (List Code)) (cn : Str) (cs : Scope) (a : Addr) (ccd : Value) (cl : List (Str × Addr)) (outer : List Env) (A₀ : Around) (base h₀ : Heap) (L : Addr) (m : FMap) (news : Led) (s : Shared) (Q E : Value → Shared → Prop)
    (mean : ExcName → Option Value) (mg mb : FMap),
    Below A₀ base outer h₀ → Fr h₀ L s.heap m → (KK w.params).In h₀ → News h₀ L s.heap news → Top qv (looseW qv loose0) mean mg mb h₀ → cs.kind = .function → dp + k < recursionLimit → un + 8 * k < cLine → Pre s.toks news →
    (∀ (v : Value) (new : Led) (h' : Heap) (tk' : Nat), s.toks ≤ tk' → Post s.toks tk' v new → Fr h₀ L h' m → News h₀ L h' (new ++ news) → Q v { s with heap := h', toks := tk' }) →
    wpAny (model r0.prog w) (ktrTop dp un gd cn cs L a ccd cl outer) (call (.ref f) vs) Q E s
noncomputable def cntN (l : List Nat) (c : Nat) : Int := ((l.filter (fun a => a == c)).length : Nat)
theorem cnt_snoc {l : List Nat} {i a c : Nat} (h : l[i]? = some a) : cntN (l.take (i + 1)) c = cntN (l.take i) c + if a = c then 1 else 0 := by
  unfold cntN
  rw [List.take_add_one, h]
  by_cases e : a = c <;> simp [List.filter_append, e]
set_option maxHeartbeats 8000000 in
theorem countS_ok (w : World) (x : Str) (c : Nat) (tx tc : Tok) (hx : x.length ≤ 60) (h0 : tc ≠ 0) : ClT 2 w 70 [.str x tx, .str ⟨#[c]⟩ tc] (fun n _ => tc < n) fun _ _ v new => ∃ t, new = [] ∧ v = .int (cntN (tl x) c) t := by
  delta ClT
  k_fill
  intro dp un gd cn cs a ccd cl outer A₀ base h₀ L m news s Q E mean mg mb B F X N T hk hd hu hpre hret
  replace hpre : tc < s.toks := hpre
  refine any_toks (wpAny_call ?_)
  refine' code_def (binds := [(Str.ofString "a", .str x tx), (Str.ofString "b", .str ⟨#[c]⟩ tc)]) ?k1 ?k2 ?k3 ?k4 ?k5 ?kA ?kF ?kK ?k6 ?k7 ?k8 ?k9 ?kB ?_ ?c2 ?c3 ?c4 ?c5
  k_dflt (( (case k1 => k_asm); (case k2 => k_asm); (case k3 => k_asm); (case k4 => k_asm); (case k5 => k_asm); (case kA => exact rfl); (case kF => exact rfl); (case kK => assumption); (case k6 => k_is); (case k7 => k_is); (case k8 => ktr_room); (case k9 => exact BindsTo.of_eq rfl); (case c5 => decide); (case kB => exact locs rfl); (case c2 => exact rfl); (case c3 => exact rfl); (case c4 => exact rfl); k_whole; intro qg' qL' qh' qFG' qF' qN' qB' qX' qT'; dsimp only [List.reverse, List.reverseAux] at qF'; (try dsimp only); (try k_lift qB'); (try k_fold)))
  (repeat' ( (fail_if_success (with_reducible show wpAny _ _ (exec (Stmt.While _ _ _ _) _) _ _ _)); (fail_if_success (with_reducible show wpAny _ _ (exec (Stmt.For _ _ _ _ _) _) _ _ _)); (first | ((with_reducible show wpAny _ _ (compareOp CmpOp.Is (Value.str _ _) (Value.str _ _)) _ _ _); (k_here; (with_reducible rename Fr _ _ _ _ => kF); (with_reducible rename Frag.In _ _ => kX); refine is_strT (by omega) (by omega) (by omega) (none_booked (kX.keeps kF.keep)) ?_; intro qb' qhb')) | (k_unfold; (try dsimp only)) | (k_end; wrow_close) | walk1 | (dsimp only; walk1) | (leave1; walk_say "STEP leave1"; try dsimp only) | fail "no step")))
  ((k_here; (rename Fr _ _ _ _ => qlF'); (with_unfolding_all refine' For_T qlF' ?_); k_whole))
  (repeat' ( (fail_if_success (with_reducible show wpAny _ _ (pyIter _) (fun it s₂ => LoopAtT _ _ _ _ _ _ _ _ _ it s₂) _ _)); (first | ((with_reducible show wpAny _ _ (compareOp CmpOp.Is (Value.str _ _) (Value.str _ _)) _ _ _); (k_here; (with_reducible rename Fr _ _ _ _ => kF); (with_reducible rename Frag.In _ _ => kX); refine is_strT (by omega) (by omega) (by omega) (none_booked (kX.keeps kF.keep)) ?_; intro qb' qhb')) | (k_unfold; (try dsimp only)) | (k_end; wrow_close) | walk1 | (dsimp only; walk1) | (leave1; walk_say "STEP leave1"; try dsimp only) | fail "no step")))
  (rename Fr _ _ _ _ => kF)
  (rename News _ _ _ _ => kN)
  refine iter_strT (fun i m₁ nx n => tc < n ∧ ∃ (t1 : Tok), nx = news ∧ m₁ (Str.ofString "count") = some (.int (cntN ((tl x).take i) c) t1) ∧ m₁ (Str.ofString "b") = some (.str ⟨#[c]⟩ tc)) (fun i m nx a b hab h => ⟨Nat.lt_of_lt_of_le h.1 hab, h.2⟩) rfl rfl rfl (by passes_own) kF kN ⟨?z0, _, rfl, rfl, rfl⟩ ?turn ?done
  case z0 => (try dsimp only); (try simp only [List.length_cons, List.length_nil]); exact Nat.lt_of_lt_of_le hpre (by (first | lia | omega))
  case done =>
    rintro m₁ nx h tk htk ⟨_, t1, rfl, hcn, hb⟩ F N
    (try k_sweep)
    (try k_unfold)
    have htk : (tl x).take x.cps.size = tl x := List.take_of_length_le (by simp [tl])
    rw [htk] at hcn
    (repeat' ( (fail_if_success (with_reducible show wpAny _ _ (exec (Stmt.While _ _ _ _) _) _ _ _)); (fail_if_success (with_reducible show wpAny _ _ (exec (Stmt.For _ _ _ _ _) _) _ _ _)); (first | ((with_reducible show wpAny _ _ (compareOp CmpOp.Is (Value.str _ _) (Value.str _ _)) _ _ _); (k_here; (with_reducible rename Fr _ _ _ _ => kF); (with_reducible rename Frag.In _ _ => kX); refine is_strT (by omega) (by omega) (by omega) (none_booked (kX.keeps kF.keep)) ?_; intro qb' qhb')) | (k_unfold; (try dsimp only)) | (k_end; wrow_close) | walk1 | (dsimp only; walk1) | (leave1; walk_say "STEP leave1"; try dsimp only) | fail "no step")))
    refine hret _ [] _ _ (by assumption) ⟨_, rfl, rfl⟩ ?zf ?zn
    case zf => k_asm
    case zn => (first | k_asm | (refine' cb_drop ?zN ?zS; (case zN => assumption); (case zS => kcj_all)))
  case turn =>
    rintro i a m₁ nx h ta tk own hi hta hadr hoff ⟨hlt, t1, rfl, hcn, hb⟩ F N
    (try k_sweep)
    (try k_fold)
    have hct : (tl x)[i]? = some a := by rw [← hi]; simp [tl]
    (repeat' ( (fail_if_success (with_reducible show wpAny _ _ (exec (Stmt.While _ _ _ _) _) _ _ _)); (fail_if_success (with_reducible show wpAny _ _ (exec (Stmt.For _ _ _ _ _) _) _ _ _)); (first | ((with_reducible show wpAny _ _ (compareOp CmpOp.Is (Value.str _ _) (Value.str _ _)) _ _ _); (k_here; (with_reducible rename Fr _ _ _ _ => kF); (with_reducible rename Frag.In _ _ => kX); refine is_strT (by omega) (by omega) (by omega) (none_booked (kX.keeps kF.keep)) ?_; intro qb' qhb')) | (k_unfold; (try dsimp only)) | (k_end; wrow_close) | walk1 | (dsimp only; walk1) | (leave1; walk_say "STEP leave1"; try dsimp only) | fail "no step")))
    (rename Fr _ _ _ _ => kF); (rename Frag.In _ _ => kX)
    replace hlt : tc < ta := hlt
    refine is_strT (fun e => Nat.not_lt_zero _ (e ▸ hlt)) h0 (Nat.ne_of_gt hlt) (none_booked (kX.keeps kF.keep)) ?_
    intro b' hb'
    have hcs := cnt_snoc (c := c) hct
    (repeat' ( (fail_if_success (with_reducible show wpAny _ _ (exec (Stmt.While _ _ _ _) _) _ _ _)); (fail_if_success (with_reducible show wpAny _ _ (exec (Stmt.For _ _ _ _ _) _) _ _ _)); (first | ((with_reducible show wpAny _ _ (compareOp CmpOp.Is (Value.str _ _) (Value.str _ _)) _ _ _); (k_here; (with_reducible rename Fr _ _ _ _ => kF); (with_reducible rename Frag.In _ _ => kX); refine is_strT (by omega) (by omega) (by omega) (none_booked (kX.keeps kF.keep)) ?_; intro qb' qhb')) | (k_unfold; (try dsimp only)) | (k_end; wrow_close) | walk1 | (dsimp only; walk1) | (leave1; walk_say "STEP leave1"; try dsimp only) | fail "no step")))
    · (rename Fr _ _ _ _ => kF)
      (rename News _ _ _ _ => kN)
      have e : a = c := one_inj (hb' (by assumption))
      rw [if_pos e] at hcs
      refine EndT.intro kF kN ⟨?_, _, rfl, by rw [hcs]; rfl, by assumption⟩ (by exact hadr) (fun p hp => List.mem_append_left _ hp) (fun p hp => List.mem_append_right _ hp)
      exact Nat.lt_of_lt_of_le hlt (Nat.le_trans hta (by (try dsimp only); (first | lia | omega)))
    · (rename Fr _ _ _ _ => kF)
      (rename News _ _ _ _ => kN)
      have e : a = c := by
        have h : ((⟨#[a]⟩ : Str) == ⟨#[c]⟩) = true := by assumption
        exact one_inj (by simpa using h)
      rw [if_pos e] at hcs
      refine EndT.intro kF kN ⟨?_, _, rfl, by rw [hcs]; rfl, by assumption⟩ (by exact hadr) (fun p hp => List.mem_append_left _ hp) (fun p hp => List.mem_append_right _ hp)
      exact Nat.lt_of_lt_of_le hlt (Nat.le_trans hta (by (try dsimp only); (first | lia | omega)))
    · (rename Fr _ _ _ _ => kF)
      (rename News _ _ _ _ => kN)
      have e : ¬ a = c := fun e => by subst e; simp at *
      rw [if_neg e, Int.add_zero] at hcs
      exact EndT.intro kF kN ⟨Nat.lt_of_lt_of_le hlt (Nat.le_trans hta (by (try dsimp only); (first | lia | omega))), _, rfl, by rw [hcs]; assumption, by assumption⟩ (by exact hadr) (fun p hp => List.mem_append_left _ hp) (fun p hp => List.mem_append_right _ hp)
noncomputable def cntI (l : List Int) (c : Int) : Int := ((l.filter (fun a => decide (a = c))).length : Nat)
theorem cntI_snoc {l : List Int} {i : Nat} {a c : Int} (h : l[i]? = some a) : cntI (l.take (i + 1)) c = cntI (l.take i) c + if a = c then 1 else 0 := by
  unfold cntI
  rw [List.take_add_one, h]
  by_cases e : a = c <;> simp [List.filter_append, e]
noncomputable def noD (D : Addr) (news : Led) : Led := news.filter fun p => p.1 != D
theorem noD_ne {D : Addr} {news : Led} : ∀ p ∈ noD D news, p.1 ≠ D := fun p hp => by simpa using (List.mem_filter.mp hp).2
theorem noD_split {h₀ h : Heap} {L D : Addr} {o : Obj} {news : Led} (N : News h₀ L h news) (hm : (D, o) ∈ news) : News h₀ L h ((D, o) :: noD D news) := fun p hp => by
  rcases List.mem_cons.mp hp with rfl | hp
  · exact N _ hm
  · exact N p (List.mem_filter.mp hp).1
theorem noD_back {h₀ h h' : Heap} {L D : Addr} {o : Obj} {news : Led} (N : News h₀ L h news) (hm : (D, o) ∈ news) (N' : News h₀ L h' ((D, o) :: noD D news)) : News h₀ L h' news := fun p hp => by
  by_cases e : p.1 = D
  · have e1 := (N p hp).1
    rw [e, (N _ hm).1] at e1
    cases e1
    obtain ⟨a, b⟩ := p
    cases e
    exact N' _ (List.mem_cons_self ..)
  · exact N' p (List.mem_cons_of_mem _ (List.mem_filter.mpr ⟨hp, by simpa using e⟩))
theorem ints_at : ∀ {vs : List Value} {ns : List Int}, IntsAre vs ns → ∀ {i : Nat} {v : Value}, vs[i]? = some v → ∃ n t, ns[i]? = some n ∧ v = .int n t
  | _, _, .nil, i, v, h => by simp at h
  | _, _, .cons n t r, 0, v, h => by
    simp at h
    exact ⟨n, t, by simp, h.symm⟩
  | _, _, .cons n t r, i + 1, v, h => by
    simp only [List.getElem?_cons_succ] at h ⊢
    exact ints_at r h
set_option maxHeartbeats 8000000 in
theorem countI_ok (w : World) (D : Addr) (vs : List Value) (ns : List Int) (k : Nat) (b : Int) (tb : Tok) (hvs : IntsAre vs ns) (hb0 : tb ≠ 0) (htok : ∀ (i : Nat) (n : Int) (t : Tok), vs[i]? = some (Value.int n t) → t ≠ 0 ∧ t ≠ tb ∧ smallInt n = true) :
    ClT 2 w 70 [.ref D, .int b tb] (fun _ news => (D, listOf (List.toArray vs) k) ∈ news) fun _ _ v new => ∃ t, new = [] ∧ v = .int (cntI ns b) t := by
  delta ClT
  k_fill
  intro dp un gd cn cs a ccd cl outer A₀ base h₀ L m news s Q E mean mg mb B F X N T hk hd hu hpre hret
  replace hpre : (D, listOf (List.toArray vs) k) ∈ news := hpre
  refine any_toks (wpAny_call ?_)
  refine' code_def (binds := [(Str.ofString "a", .ref D), (Str.ofString "b", .int b tb)]) ?k1 ?k2 ?k3 ?k4 ?k5 ?kA ?kF ?kK ?k6 ?k7 ?k8 ?k9 ?kB ?_ ?c2 ?c3 ?c4 ?c5
  k_dflt (( (case k1 => k_asm); (case k2 => k_asm); (case k3 => k_asm); (case k4 => k_asm); (case k5 => k_asm); (case kA => exact rfl); (case kF => exact rfl); (case kK => assumption); (case k6 => k_is); (case k7 => k_is); (case k8 => ktr_room); (case k9 => exact BindsTo.of_eq rfl); (case c5 => decide); (case kB => exact locs rfl); (case c2 => exact rfl); (case c3 => exact rfl); (case c4 => exact rfl); k_whole; intro qg' qL' qh' qFG' qF' qN' qB' qX' qT'; dsimp only [List.reverse, List.reverseAux] at qF'; (try dsimp only); (try k_lift qB'); (try k_fold)))
  (repeat' ( (fail_if_success (with_reducible show wpAny _ _ (exec (Stmt.While _ _ _ _) _) _ _ _)); (fail_if_success (with_reducible show wpAny _ _ (exec (Stmt.For _ _ _ _ _) _) _ _ _)); (first | ((with_reducible show wpAny _ _ (compareOp CmpOp.Is (Value.int _ _) (Value.int _ _)) _ _ _); (k_here; refine is_intT (by assumption) (by assumption) (by assumption) (by assumption) ?_)) | ((with_reducible show wpAny _ _ (compareOp CmpOp.Is (Value.str _ _) (Value.str _ _)) _ _ _); (k_here; (with_reducible rename Fr _ _ _ _ => kF); (with_reducible rename Frag.In _ _ => kX); refine is_strT (by omega) (by omega) (by omega) (none_booked (kX.keeps kF.keep)) ?_; intro qb' qhb')) | (k_unfold; (try dsimp only)) | (k_end; wrow_close) | walk1 | (dsimp only; walk1) | (leave1; walk_say "STEP leave1"; try dsimp only) | fail "no step")))
  ((k_here; (rename Fr _ _ _ _ => qlF'); (with_unfolding_all refine' For_T qlF' ?_); k_whole))
  (repeat' ( (fail_if_success (with_reducible show wpAny _ _ (pyIter _) (fun it s₂ => LoopAtT _ _ _ _ _ _ _ _ _ it s₂) _ _)); (first | ((with_reducible show wpAny _ _ (compareOp CmpOp.Is (Value.int _ _) (Value.int _ _)) _ _ _); (k_here; refine is_intT (by assumption) (by assumption) (by assumption) (by assumption) ?_)) | ((with_reducible show wpAny _ _ (compareOp CmpOp.Is (Value.str _ _) (Value.str _ _)) _ _ _); (k_here; (with_reducible rename Fr _ _ _ _ => kF); (with_reducible rename Frag.In _ _ => kX); refine is_strT (by omega) (by omega) (by omega) (none_booked (kX.keeps kF.keep)) ?_; intro qb' qhb')) | (k_unfold; (try dsimp only)) | (k_end; wrow_close) | walk1 | (dsimp only; walk1) | (leave1; walk_say "STEP leave1"; try dsimp only) | fail "no step")))
  (rename Fr _ _ _ _ => kF)
  (rename News _ _ _ _ => kN)
  refine iter_listT (fun i m₁ nx n => ∃ (t1 : Tok), nx = noD D news ∧ m₁ (Str.ofString "count") = some (.int (cntI (ns.take i) b) t1) ∧ m₁ (Str.ofString "b") = some (.int b tb)) (fun i m nx a b hab h => h) rfl rfl rfl (by passes_own) kF rfl (noD_split kN hpre) noD_ne ⟨_, rfl, rfl, rfl⟩ ?turn ?done
  case done =>
    rintro m₁ nx h tk htk ⟨t1, rfl, hcn, hb⟩ _ F N
    replace N := noD_back kN hpre N
    clear kN kF
    (try k_sweep)
    (try k_unfold)
    have htk : ns.take vs.length = ns := by rw [hvs.length]; exact List.take_length ..
    rw [htk] at hcn
    (repeat' ( (fail_if_success (with_reducible show wpAny _ _ (exec (Stmt.While _ _ _ _) _) _ _ _)); (fail_if_success (with_reducible show wpAny _ _ (exec (Stmt.For _ _ _ _ _) _) _ _ _)); (first | ((with_reducible show wpAny _ _ (compareOp CmpOp.Is (Value.int _ _) (Value.int _ _)) _ _ _); (k_here; refine is_intT (by assumption) (by assumption) (by assumption) (by assumption) ?_)) | ((with_reducible show wpAny _ _ (compareOp CmpOp.Is (Value.str _ _) (Value.str _ _)) _ _ _); (k_here; (with_reducible rename Fr _ _ _ _ => kF); (with_reducible rename Frag.In _ _ => kX); refine is_strT (by omega) (by omega) (by omega) (none_booked (kX.keeps kF.keep)) ?_; intro qb' qhb')) | (k_unfold; (try dsimp only)) | (k_end; wrow_close) | walk1 | (dsimp only; walk1) | (leave1; walk_say "STEP leave1"; try dsimp only) | fail "no step")))
    refine hret _ [] _ _ (by assumption) ⟨_, rfl, rfl⟩ ?zf ?zn
    case zf => k_asm
    case zn => (first | k_asm | (refine' cb_drop ?zN ?zS; (case zN => assumption); (case zS => kcj_all)))
  case turn =>
    rintro i v m₁ nx h ta tk own hi hta hadr hoff hown ⟨t1, rfl, hcn, hb⟩ F N
    obtain ⟨n, t, hn, rfl⟩ := ints_at hvs hi
    obtain ⟨ht1, ht2, ht3⟩ := htok i n t hi
    have hcs := cntI_snoc (c := b) hn
    clear kN kF
    (try k_sweep)
    (try k_fold)
    (repeat' ( (fail_if_success (with_reducible show wpAny _ _ (exec (Stmt.While _ _ _ _) _) _ _ _)); (fail_if_success (with_reducible show wpAny _ _ (exec (Stmt.For _ _ _ _ _) _) _ _ _)); (first | ((with_reducible show wpAny _ _ (compareOp CmpOp.Is (Value.int _ _) (Value.int _ _)) _ _ _); (k_here; refine is_intT (by assumption) (by assumption) (by assumption) (by assumption) ?_)) | ((with_reducible show wpAny _ _ (compareOp CmpOp.Is (Value.str _ _) (Value.str _ _)) _ _ _); (k_here; (with_reducible rename Fr _ _ _ _ => kF); (with_reducible rename Frag.In _ _ => kX); refine is_strT (by omega) (by omega) (by omega) (none_booked (kX.keeps kF.keep)) ?_; intro qb' qhb')) | (k_unfold; (try dsimp only)) | (k_end; wrow_close) | walk1 | (dsimp only; walk1) | (leave1; walk_say "STEP leave1"; try dsimp only) | fail "no step")))
    · (rename Fr _ _ _ _ => kF)
      (rename News _ _ _ _ => kN)
      rw [if_pos (by assumption)] at hcs
      exact EndT.intro kF kN ⟨_, rfl, by rw [hcs]; rfl, by assumption⟩ rfl (fun p hp => List.mem_append_left _ hp) (fun p hp => List.mem_append_right _ hp)
    · exfalso; contradiction
    · (rename Fr _ _ _ _ => kF)
      (rename News _ _ _ _ => kN)
      rw [if_neg (by assumption), Int.add_zero] at hcs
      exact EndT.intro kF kN ⟨_, rfl, by rw [hcs]; assumption, by assumption⟩ rfl (fun p hp => List.mem_append_left _ hp) (fun p hp => List.mem_append_right _ hp)
theorem eq_ints1 {prog : Program} {w : World} {A : Around} {E : Value → Shared → Prop} {s : Shared} {d e : Addr} {n b : Int} {t u : Tok} {k j : Nat} {Q : Value → Shared → Prop} (hd : s.heap.get? d = some (listOf #[.int n t] k)) (he : s.heap.get? e = some (listOf #[.int b u] j)) (hu : A.units + 64 < cLine)
    (h : Q (.bool (decide (n = b))) s) : wpAny (model prog w) A (compareOp .Eq (.ref d) (.ref e)) Q E s :=
  ke_eq_ints (xs := [.int n t]) (ys := [.int b u]) (PySem.IsL.isList hd) (PySem.IsL.isList he) (.cons _ _ .nil) (.cons _ _ .nil) hu (by
    have : decide ([n] = [b]) = decide (n = b) := by simp
    rw [this]; exact h)
theorem is_lists {M : Model} {A : Around} {E : Value → Shared → Prop} {s : Shared} {d e : Addr} {x y : Array Value} {k j : Nat} {Q : Value → Shared → Prop} (hxy : d ≠ e) (hd : s.heap.get? d = some (listOf x k)) (he : s.heap.get? e = some (listOf y j)) (h : Q (.bool false) s) : wpAny M A (compareOp .Is (.ref d) (.ref e)) Q E s :=
  wpAny_is_ref_other hxy hd he (by
    intro h
    have h : Value.type "list" = Value.type "tuple" := h
    injection h with h
    exact absurd h (by decide)) h
set_option maxHeartbeats 8000000 in
theorem countL_ok (w : World) (D B' : Addr) (vs : List Value) (ns : List Int) (k kb : Nat) (b : Int) (tb : Tok) (hlen : vs.length = ns.length) (hDB : B' ≠ D) :
    ClT 12 w 70 [.ref D, .ref B'] (fun _ news => (D, listOf (List.toArray vs) k) ∈ news ∧ (B', listOf #[.int b tb] kb) ∈ news ∧ ∀ (i : Nat) (v : Value), vs[i]? = some v → ∃ (d : Addr) (n : Int) (t : Tok) (j : Nat), v = .ref d ∧ ns[i]? = some n ∧ (d, listOf #[.int n t] j) ∈ news ∧ d ≠ B' ∧ d ≠ D) fun _ _ v new => ∃ t, new = [] ∧ v = .int (cntI ns b) t := by
  delta ClT
  k_fill
  intro dp un gd cn cs a ccd cl outer A₀ base h₀ L m news s Q E mean mg mb B F X N T hk hd hu hpre hret
  replace hpre : (D, listOf (List.toArray vs) k) ∈ news ∧ (B', listOf #[.int b tb] kb) ∈ news ∧ ∀ (i : Nat) (v : Value), vs[i]? = some v → ∃ (d : Addr) (n : Int) (t : Tok) (j : Nat), v = .ref d ∧ ns[i]? = some n ∧ (d, listOf #[.int n t] j) ∈ news ∧ d ≠ B' ∧ d ≠ D := hpre
  obtain ⟨hpre, hB, hvs⟩ := hpre
  refine any_toks (wpAny_call ?_)
  refine' code_def (binds := [(Str.ofString "a", .ref D), (Str.ofString "b", .ref B')]) ?k1 ?k2 ?k3 ?k4 ?k5 ?kA ?kF ?kK ?k6 ?k7 ?k8 ?k9 ?kB ?_ ?c2 ?c3 ?c4 ?c5
  k_dflt (( (case k1 => k_asm); (case k2 => k_asm); (case k3 => k_asm); (case k4 => k_asm); (case k5 => k_asm); (case kA => exact rfl); (case kF => exact rfl); (case kK => assumption); (case k6 => k_is); (case k7 => k_is); (case k8 => ktr_room); (case k9 => exact BindsTo.of_eq rfl); (case c5 => decide); (case kB => exact locs rfl); (case c2 => exact rfl); (case c3 => exact rfl); (case c4 => exact rfl); k_whole; intro qg' qL' qh' qFG' qF' qN' qB' qX' qT'; dsimp only [List.reverse, List.reverseAux] at qF'; (try dsimp only); (try k_lift qB'); (try k_fold)))
  (repeat' ( (fail_if_success (with_reducible show wpAny _ _ (exec (Stmt.While _ _ _ _) _) _ _ _)); (fail_if_success (with_reducible show wpAny _ _ (exec (Stmt.For _ _ _ _ _) _) _ _ _)); (first | ((with_reducible show wpAny _ _ (compareOp CmpOp.Eq (Value.ref _) (Value.ref _)) _ _ _); (k_here; refine eq_ints1 (by assumption) (by assumption) (by first | (first | lia | omega) | ((try simp only [units_deeper]); (first | lia | omega)) | ktr_units) ?_)) | ((with_reducible show wpAny _ _ (compareOp CmpOp.Is (Value.ref _) (Value.ref _)) _ _ _); (k_here; refine is_lists (by assumption) (by assumption) (by assumption) ?_)) | ((with_reducible show wpAny _ _ (compareOp CmpOp.Is (Value.int _ _) (Value.int _ _)) _ _ _); (k_here; refine is_intT (by assumption) (by assumption) (by assumption) (by assumption) ?_)) | ((with_reducible show wpAny _ _ (compareOp CmpOp.Is (Value.str _ _) (Value.str _ _)) _ _ _); (k_here; (with_reducible rename Fr _ _ _ _ => kF); (with_reducible rename Frag.In _ _ => kX); refine is_strT (by omega) (by omega) (by omega) (none_booked (kX.keeps kF.keep)) ?_; intro qb' qhb')) | (k_unfold; (try dsimp only)) | (k_end; wrow_close) | walk1 | (dsimp only; walk1) | (leave1; walk_say "STEP leave1"; try dsimp only) | fail "no step")))
  ((k_here; (rename Fr _ _ _ _ => qlF'); (with_unfolding_all refine' For_T qlF' ?_); k_whole))
  (repeat' ( (fail_if_success (with_reducible show wpAny _ _ (pyIter _) (fun it s₂ => LoopAtT _ _ _ _ _ _ _ _ _ it s₂) _ _)); (first | ((with_reducible show wpAny _ _ (compareOp CmpOp.Eq (Value.ref _) (Value.ref _)) _ _ _); (k_here; refine eq_ints1 (by assumption) (by assumption) (by first | (first | lia | omega) | ((try simp only [units_deeper]); (first | lia | omega)) | ktr_units) ?_)) | ((with_reducible show wpAny _ _ (compareOp CmpOp.Is (Value.ref _) (Value.ref _)) _ _ _); (k_here; refine is_lists (by assumption) (by assumption) (by assumption) ?_)) | ((with_reducible show wpAny _ _ (compareOp CmpOp.Is (Value.int _ _) (Value.int _ _)) _ _ _); (k_here; refine is_intT (by assumption) (by assumption) (by assumption) (by assumption) ?_)) | ((with_reducible show wpAny _ _ (compareOp CmpOp.Is (Value.str _ _) (Value.str _ _)) _ _ _); (k_here; (with_reducible rename Fr _ _ _ _ => kF); (with_reducible rename Frag.In _ _ => kX); refine is_strT (by omega) (by omega) (by omega) (none_booked (kX.keeps kF.keep)) ?_; intro qb' qhb')) | (k_unfold; (try dsimp only)) | (k_end; wrow_close) | walk1 | (dsimp only; walk1) | (leave1; walk_say "STEP leave1"; try dsimp only) | fail "no step")))
  (rename Fr _ _ _ _ => kF)
  (rename News _ _ _ _ => kN)
  refine iter_listT (fun i m₁ nx n => ∃ (t1 : Tok), nx = noD D news ∧ m₁ (Str.ofString "count") = some (.int (cntI (ns.take i) b) t1) ∧ m₁ (Str.ofString "b") = some (.ref B')) (fun i m nx a b hab h => h) rfl rfl rfl (by passes_own) kF rfl (noD_split kN hpre) noD_ne ⟨_, rfl, rfl, rfl⟩ ?turn ?done
  case done =>
    rintro m₁ nx h tk htk ⟨t1, rfl, hcn, hb⟩ _ F N
    replace N := noD_back kN hpre N
    clear kN kF
    (try k_sweep)
    (try k_unfold)
    have htk : ns.take vs.length = ns := by rw [hlen]; exact List.take_length ..
    rw [htk] at hcn
    (repeat' ( (fail_if_success (with_reducible show wpAny _ _ (exec (Stmt.While _ _ _ _) _) _ _ _)); (fail_if_success (with_reducible show wpAny _ _ (exec (Stmt.For _ _ _ _ _) _) _ _ _)); (first | ((with_reducible show wpAny _ _ (compareOp CmpOp.Eq (Value.ref _) (Value.ref _)) _ _ _); (k_here; refine eq_ints1 (by assumption) (by assumption) (by first | (first | lia | omega) | ((try simp only [units_deeper]); (first | lia | omega)) | ktr_units) ?_)) | ((with_reducible show wpAny _ _ (compareOp CmpOp.Is (Value.ref _) (Value.ref _)) _ _ _); (k_here; refine is_lists (by assumption) (by assumption) (by assumption) ?_)) | ((with_reducible show wpAny _ _ (compareOp CmpOp.Is (Value.int _ _) (Value.int _ _)) _ _ _); (k_here; refine is_intT (by assumption) (by assumption) (by assumption) (by assumption) ?_)) | ((with_reducible show wpAny _ _ (compareOp CmpOp.Is (Value.str _ _) (Value.str _ _)) _ _ _); (k_here; (with_reducible rename Fr _ _ _ _ => kF); (with_reducible rename Frag.In _ _ => kX); refine is_strT (by omega) (by omega) (by omega) (none_booked (kX.keeps kF.keep)) ?_; intro qb' qhb')) | (k_unfold; (try dsimp only)) | (k_end; wrow_close) | walk1 | (dsimp only; walk1) | (leave1; walk_say "STEP leave1"; try dsimp only) | fail "no step")))
    refine hret _ [] _ _ (by assumption) ⟨_, rfl, rfl⟩ ?zf ?zn
    case zf => k_asm
    case zn => (first | k_asm | (refine' cb_drop ?zN ?zS; (case zN => assumption); (case zS => kcj_all)))
  case turn =>
    rintro i v m₁ nx h ta tk own hi hta hadr hoff hown ⟨t1, rfl, hcn, hb⟩ F N
    obtain ⟨d, n, t, j, rfl, hn, hdm, hdB, hdD⟩ := hvs i v hi
    have hcs := cntI_snoc (c := b) hn
    have hgd : h.get? d = some (listOf #[.int n t] j) := (N _ (List.mem_append_left _ (List.mem_filter.mpr ⟨hdm, by simpa using hdD⟩))).1
    have hgb : h.get? B' = some (listOf #[.int b tb] kb) := (N _ (List.mem_append_left _ (List.mem_filter.mpr ⟨hB, by simpa using hDB⟩))).1
    clear kN kF
    (try k_sweep)
    (try k_fold)
    (repeat' ( (fail_if_success (with_reducible show wpAny _ _ (exec (Stmt.While _ _ _ _) _) _ _ _)); (fail_if_success (with_reducible show wpAny _ _ (exec (Stmt.For _ _ _ _ _) _) _ _ _)); (first | ((with_reducible show wpAny _ _ (compareOp CmpOp.Eq (Value.ref _) (Value.ref _)) _ _ _); (k_here; refine eq_ints1 (by assumption) (by assumption) (by first | (first | lia | omega) | ((try simp only [units_deeper]); (first | lia | omega)) | ktr_units) ?_)) | ((with_reducible show wpAny _ _ (compareOp CmpOp.Is (Value.ref _) (Value.ref _)) _ _ _); (k_here; refine is_lists (by assumption) (by assumption) (by assumption) ?_)) | ((with_reducible show wpAny _ _ (compareOp CmpOp.Is (Value.int _ _) (Value.int _ _)) _ _ _); (k_here; refine is_intT (by assumption) (by assumption) (by assumption) (by assumption) ?_)) | ((with_reducible show wpAny _ _ (compareOp CmpOp.Is (Value.str _ _) (Value.str _ _)) _ _ _); (k_here; (with_reducible rename Fr _ _ _ _ => kF); (with_reducible rename Frag.In _ _ => kX); refine is_strT (by omega) (by omega) (by omega) (none_booked (kX.keeps kF.keep)) ?_; intro qb' qhb')) | (k_unfold; (try dsimp only)) | (k_end; wrow_close) | walk1 | (dsimp only; walk1) | (leave1; walk_say "STEP leave1"; try dsimp only) | fail "no step")))
    · (rename Fr _ _ _ _ => kF)
      (rename News _ _ _ _ => kN)
      rw [if_pos (by assumption)] at hcs
      exact EndT.intro kF kN ⟨_, rfl, by rw [hcs]; rfl, by assumption⟩ rfl (fun p hp => List.mem_append_left _ hp) (fun p hp => List.mem_append_right _ hp)
    · (rename Fr _ _ _ _ => kF)
      (rename News _ _ _ _ => kN)
      rw [if_neg (by assumption), Int.add_zero] at hcs
      exact EndT.intro kF kN ⟨_, rfl, by rw [hcs]; assumption, by assumption⟩ rfl (fun p hp => List.mem_append_left _ hp) (fun p hp => List.mem_append_right _ hp)

end Mine
end

section
open PySem PySem.W PyProof.Rows
set_option maxRecDepth 100000
namespace Mine
-- a local whose value a fact tells

local macro_rules | `(tactic| walk_at "execs cons") => `(tactic| (refine wpAny_execs_cons ?_))
theorem useT {k : Nat} {w : World} {f : Addr} {vs : List Value} {Pre : Nat → Led → Prop} {Post : Nat → Nat → Value → Led → Prop} (C : ClT k w f vs Pre Post) {dp un : Nat} {gd : Option (List Code)} {cn : Str} {cs : Scope} {a : Addr} {ccd : Value} {cl : List (Str × Addr)} {outer : List Env} {A₀ : Around} {base h₀ : Heap} {L : Addr} {m : FMap} {news : Led} {s : Shared} {Q E : Value → Shared → Prop}
    {mean : ExcName → Option Value} {mg mb : FMap}
    (B : Below A₀ base outer h₀) (F : Fr h₀ L s.heap m) (X : (KK w.params).In h₀) (N : News h₀ L s.heap news) (T : Top qv (looseW qv loose0) mean mg mb h₀) (hk : cs.kind = .function) (hd : dp + k < recursionLimit) (hu : un + 8 * k < cLine) (hp : Pre s.toks news)
    (hr : ∀ (v : Value) (new : Led) (h' : Heap) (tk' : Nat), s.toks ≤ tk' → Post s.toks tk' v new → Fr h₀ L h' m → News h₀ L h' (new ++ news) → Q v { s with heap := h', toks := tk' }) :
    wpAny (model r0.prog w) (ktrTop dp un gd cn cs L a ccd cl outer) (call (.ref f) vs) Q E s :=
  C dp un gd cn cs a ccd cl outer A₀ base h₀ L m news s Q E mean mg mb B F X N T hk hd hu hp hr
theorem ClN.toT {k : Nat} {w : World} {f : Addr} {vs : List Value} {Post : Value → Led → Prop} (C : ClN k w f vs Post) : ClT k w f vs (fun _ _ => True) fun _ _ v new => Post v new := by
  intro dp un gd cn cs a ccd cl outer A₀ base h₀ L m news s Q E mean mg mb B F X N T hk hd hu _ hr
  exact any_toks (C dp un gd cn cs a ccd cl outer A₀ base h₀ L m news s _ E mean mg mb B F X N T hk hd hu fun v new h' tk' p F' N' hle => hr v new h' tk' hle p F' N')
theorem useTV {k : Nat} {w : World} {f : Addr} {vs : List Value} {Pre : Nat → Led → Prop} {V : Tok → Value} (C : ClT k w f vs Pre fun _ _ v new => ∃ t, new = [] ∧ v = V t) {dp un : Nat} {gd : Option (List Code)} {cn : Str} {cs : Scope} {a : Addr} {ccd : Value} {cl : List (Str × Addr)} {outer : List Env} {A₀ : Around} {base h₀ : Heap} {L : Addr} {m : FMap} {news : Led} {s : Shared} {Q E : Value → Shared → Prop}
    {mean : ExcName → Option Value} {mg mb : FMap}
    (B : Below A₀ base outer h₀) (F : Fr h₀ L s.heap m) (X : (KK w.params).In h₀) (N : News h₀ L s.heap news) (T : Top qv (looseW qv loose0) mean mg mb h₀) (hk : cs.kind = .function) (hd : dp + k < recursionLimit) (hu : un + 8 * k < cLine) (hp : Pre s.toks news)
    (hr : ∀ (h' : Heap) (tk' : Nat) (t' : Tok), s.toks ≤ tk' → Fr h₀ L h' m → News h₀ L h' news → Q (V t') { s with heap := h', toks := tk' }) :
    wpAny (model r0.prog w) (ktrTop dp un gd cn cs L a ccd cl outer) (call (.ref f) vs) Q E s := by
  refine useT C B F X N T hk hd hu hp ?_
  rintro v new h' tk' hle ⟨t, rfl, rfl⟩ F' N'
  exact hr h' tk' t hle F' N'
theorem useTP {k : Nat} {w : World} {f : Addr} {vs : List Value} {Pre : Nat → Led → Prop} {V : Tok → Value} {P : Nat → Tok → Prop} (C : ClT k w f vs Pre fun n _ v new => ∃ t, new = [] ∧ v = V t ∧ P n t) {dp un : Nat} {gd : Option (List Code)} {cn : Str} {cs : Scope} {a : Addr} {ccd : Value} {cl : List (Str × Addr)} {outer : List Env} {A₀ : Around} {base h₀ : Heap} {L : Addr} {m : FMap} {news : Led} {s : Shared} {Q E : Value → Shared → Prop}
    {mean : ExcName → Option Value} {mg mb : FMap}
    (B : Below A₀ base outer h₀) (F : Fr h₀ L s.heap m) (X : (KK w.params).In h₀) (N : News h₀ L s.heap news) (T : Top qv (looseW qv loose0) mean mg mb h₀) (hk : cs.kind = .function) (hd : dp + k < recursionLimit) (hu : un + 8 * k < cLine) (hp : Pre s.toks news)
    (hr : ∀ (h' : Heap) (tk' : Nat) (t' : Tok), s.toks ≤ tk' → P s.toks t' → Fr h₀ L h' m → News h₀ L h' news → Q (V t') { s with heap := h', toks := tk' }) :
    wpAny (model r0.prog w) (ktrTop dp un gd cn cs L a ccd cl outer) (call (.ref f) vs) Q E s := by
  refine useT C B F X N T hk hd hu hp ?_
  rintro v new h' tk' hle ⟨t, rfl, rfl, hP⟩ F' N'
  exact hr h' tk' t hle hP F' N'
theorem useNV {k : Nat} {w : World} {f : Addr} {vs : List Value} {V : Tok → Value} (C : ClN k w f vs fun v new => ∃ t, new = [] ∧ v = V t) {dp un : Nat} {gd : Option (List Code)} {cn : Str} {cs : Scope} {a : Addr} {ccd : Value} {cl : List (Str × Addr)} {outer : List Env} {A₀ : Around} {base h₀ : Heap} {L : Addr} {m : FMap} {news : Led} {s : Shared} {Q E : Value → Shared → Prop}
    {mean : ExcName → Option Value} {mg mb : FMap}
    (B : Below A₀ base outer h₀) (F : Fr h₀ L s.heap m) (X : (KK w.params).In h₀) (N : News h₀ L s.heap news) (T : Top qv (looseW qv loose0) mean mg mb h₀) (hk : cs.kind = .function) (hd : dp + k < recursionLimit) (hu : un + 8 * k < cLine)
    (hr : ∀ (h' : Heap) (tk' : Nat) (t' : Tok), s.toks ≤ tk' → Fr h₀ L h' m → News h₀ L h' news → Q (V t') { s with heap := h', toks := tk' }) :
    wpAny (model r0.prog w) (ktrTop dp un gd cn cs L a ccd cl outer) (call (.ref f) vs) Q E s := by
  refine useT (ClN.toT C) B F X N T hk hd hu True.intro ?_
  rintro v new h' tk' hle ⟨t, rfl, rfl⟩ F' N'
  exact hr h' tk' t hle F' N'
theorem useNB {k : Nat} {w : World} {f : Addr} {vs : List Value} {V : Value} (C : ClN k w f vs fun v new => new = [] ∧ v = V) {dp un : Nat} {gd : Option (List Code)} {cn : Str} {cs : Scope} {a : Addr} {ccd : Value} {cl : List (Str × Addr)} {outer : List Env} {A₀ : Around} {base h₀ : Heap} {L : Addr} {m : FMap} {news : Led} {s : Shared} {Q E : Value → Shared → Prop}
    {mean : ExcName → Option Value} {mg mb : FMap}
    (B : Below A₀ base outer h₀) (F : Fr h₀ L s.heap m) (X : (KK w.params).In h₀) (N : News h₀ L s.heap news) (T : Top qv (looseW qv loose0) mean mg mb h₀) (hk : cs.kind = .function) (hd : dp + k < recursionLimit) (hu : un + 8 * k < cLine)
    (hr : ∀ (h' : Heap) (tk' : Nat), s.toks ≤ tk' → Fr h₀ L h' m → News h₀ L h' news → Q V { s with heap := h', toks := tk' }) :
    wpAny (model r0.prog w) (ktrTop dp un gd cn cs L a ccd cl outer) (call (.ref f) vs) Q E s := by
  refine useT (ClN.toT C) B F X N T hk hd hu True.intro ?_
  rintro v new h' tk' hle ⟨rfl, rfl⟩ F' N'
  exact hr h' tk' hle F' N'
set_option maxHeartbeats 4000000 in
theorem add_okT (w : World) (x y : Int) (tx ty : Tok) : ClT 2 w 42 [.int x tx, .int y ty] (fun _ _ => True) fun n _ v new => ∃ t, new = [] ∧ v = .int (x + y) t ∧ n ≤ t := by
  delta ClT
  k_fill
  intro dp un gd cn cs a ccd cl outer A₀ base h₀ L m news s Q E mean mg mb B F X N T hk hd hu _ hret
  refine any_toks (wpAny_call ?_)
  refine' code_def (binds := [(Str.ofString "a", .int x tx), (Str.ofString "b", .int y ty)]) ?k1 ?k2 ?k3 ?k4 ?k5 ?kA ?kF ?kK ?k6 ?k7 ?k8 ?k9 ?kB ?_ ?c2 ?c3 ?c4 ?c5
  k_dflt (( (case k1 => k_asm); (case k2 => k_asm); (case k3 => k_asm); (case k4 => k_asm); (case k5 => k_asm); (case kA => exact rfl); (case kF => exact rfl); (case kK => assumption); (case k6 => k_is); (case k7 => k_is); (case k8 => ktr_room); (case k9 => exact BindsTo.of_eq rfl); (case c5 => decide); (case kB => exact locs rfl); (case c2 => exact rfl); (case c3 => exact rfl); (case c4 => exact rfl); k_whole; intro qg' qL' qh' qFG' qF' qN' qB' qX' qT'; dsimp only [List.reverse, List.reverseAux] at qF'; (try dsimp only); (try k_lift qB'); (try k_fold)))
  (repeat' ( (fail_if_success (with_reducible show wpAny _ _ (exec (Stmt.While _ _ _ _) _) _ _ _)); (fail_if_success (with_reducible show wpAny _ _ (exec (Stmt.For _ _ _ _ _) _) _ _ _)); (first | (k_unfold; (try dsimp only)) | (k_end; wrow_close) | walk1 | (dsimp only; walk1) | (leave1; walk_say "STEP leave1"; try dsimp only) | fail "no step")))
  refine hret _ [] _ _ (by assumption) ⟨_, rfl, rfl, ?zt⟩ ?zf ?zn
  case zt => (try dsimp only); (try simp only [List.length_cons, List.length_nil]); (first | lia | omega)
  case zf => k_asm
  case zn => k_asm
set_option maxHeartbeats 4000000 in
theorem above_okT (w : World) (x : Int) (tx : Tok) : ClT 4 w 179 [.int x tx] (fun _ _ => True) fun n _ v new => ∃ t, new = [] ∧ v = .int (if 0 < x then x else 0) t ∧ (t = tx ∨ n ≤ t) := by
  delta ClT
  k_fill
  intro dp un gd cn cs a ccd cl outer A₀ base h₀ L m news s Q E mean mg mb B F X N T hk hd hu _ hret
  refine any_toks (wpAny_call ?_)
  refine' code_def (binds := [(Str.ofString "step", .int x tx)]) ?k1 ?k2 ?k3 ?k4 ?k5 ?kA ?kF ?kK ?k6 ?k7 ?k8 ?k9 ?kB ?_ ?c2 ?c3 ?c4 ?c5
  k_dflt (( (case k1 => k_asm); (case k2 => k_asm); (case k3 => k_asm); (case k4 => k_asm); (case k5 => k_asm); (case kA => exact rfl); (case kF => exact rfl); (case kK => assumption); (case k6 => k_is); (case k7 => k_is); (case k8 => ktr_room); (case k9 => exact BindsTo.of_eq rfl); (case c5 => decide); (case kB => exact locs rfl); (case c2 => exact rfl); (case c3 => exact rfl); (case c4 => exact rfl); k_whole; intro qg' qL' qh' qFG' qF' qN' qB' qX' qT'; dsimp only [List.reverse, List.reverseAux] at qF'; (try dsimp only); (try k_lift qB'); (try k_fold)))
  (repeat' ( (fail_if_success (with_reducible show wpAny _ _ (exec (Stmt.While _ _ _ _) _) _ _ _)); (fail_if_success (with_reducible show wpAny _ _ (exec (Stmt.For _ _ _ _ _) _) _ _ _)); (first | ((with_reducible show wpAny _ _ (call (Value.ref 35) _) _ _ _); (k_here; refine' useNB (gt_ok _ _ _ _ _) ?kB ?kF ?kX ?kN ?kT ?kk ?kd ?ku ?_; (((case kB => k_asm); (case kF => k_asm); (case kX => k_asm); (case kN => k_asm); (case kT => k_asm); (case kk => first | assumption | exact rfl); (case kd => first | (first | lia | omega) | ((try simp only [depth_deeper]); (first | lia | omega)) | ktr_room); (case ku => first | (first | lia | omega) | ((try simp only [units_deeper]); (first | lia | omega)) | ktr_units))); (intro qh' qtk' qhtk' qF' qN'))) | (k_unfold; (try dsimp only)) | (k_end; wrow_close) | walk1 | (dsimp only; walk1) | (leave1; walk_say "STEP leave1"; try dsimp only) | fail "no step")))
  · refine hret _ [] _ _ (by assumption) ⟨_, rfl, by rw [if_pos (by simpa using (by assumption : (decide (0 < x) == true) = true))], .inl rfl⟩ ?zf ?zn
    case zf => k_asm
    case zn => k_asm
  · refine hret _ [] _ _ (by assumption) ⟨_, rfl, by rw [if_neg (by simpa using (by assumption : (decide (0 < x) == true) = false))], .inr ?zt⟩ ?zf ?zn
    case zt => (try dsimp only at *); (try simp only [List.length_cons, List.length_nil] at *); (first | lia | omega)
    case zf => k_asm
    case zn => k_asm

end Mine
end

section
open PySem PySem.W PyProof.Rows
set_option maxRecDepth 100000
namespace Mine
-- a local whose value a fact tells

inductive W1 (x y : Str) (tx ty tm : Tok) (mx : Int) (n : Nat) (m : FMap) : Prop
  | mk (ha : m (Str.ofString "a") = some (.str x tx)) (hb : m (Str.ofString "b") = some (.str y ty)) (hm : m (Str.ofString "max_cost") = some (.int mx tm)) (i : Int) (t : Tok) (hp : m (Str.ofString "pre") = some (.int i t)) (hn : n = x.length - i.toNat) (hpre : Pre x y i) : W1 x y tx ty tm mx n m
inductive W1e (x y : Str) (tx ty tm : Tok) (mx : Int) (m : FMap) : Prop
  | mk (ha : m (Str.ofString "a") = some (.str x tx)) (hb : m (Str.ofString "b") = some (.str y ty)) (hm : m (Str.ofString "max_cost") = some (.int mx tm)) (i : Int) (t : Tok) (hp : m (Str.ofString "pre") = some (.int i t)) (hpre : PreEnd x y i) : W1e x y tx ty tm mx m
inductive W2 (A B : Str) (tm : Tok) (mx : Int) (n : Nat) (m : FMap) : Prop
  | mk (tA tB : Tok) (ha : m (Str.ofString "a") = some (.str A tA)) (hb : m (Str.ofString "b") = some (.str B tB)) (hm : m (Str.ofString "max_cost") = some (.int mx tm)) (p : Int) (t : Tok) (hp : m (Str.ofString "post") = some (.int p t)) (hn : n = A.length - (-p).toNat) (hpre : Post A B p) : W2 A B tm mx n m
inductive W2e (A B : Str) (tm : Tok) (mx : Int) (m : FMap) : Prop
  | mk (tA tB : Tok) (ha : m (Str.ofString "a") = some (.str A tA)) (hb : m (Str.ofString "b") = some (.str B tB)) (hm : m (Str.ofString "max_cost") = some (.int mx tm)) (p : Int) (t : Tok) (hp : m (Str.ofString "post") = some (.int p t)) (hpre : PostEnd A B p) : W2e A B tm mx m
inductive C1 (A B : Str) (tm : Tok) (mx : Int) (p : Int) (t : Tok) (m : FMap) : Prop
  | mk (tA tB : Tok) (ha : m (Str.ofString "a") = some (.str A tA)) (hb : m (Str.ofString "b") = some (.str B tB)) (hm : m (Str.ofString "max_cost") = some (.int mx tm)) (hp : m (Str.ofString "post") = some (.int p t)) : C1 A B tm mx p t m
inductive C2 (A B : Str) (tm : Tok) (mx : Int) (m : FMap) : Prop
  | mk (tA tB : Tok) (ha : m (Str.ofString "a") = some (.str A tA)) (hb : m (Str.ofString "b") = some (.str B tB)) (hm : m (Str.ofString "max_cost") = some (.int mx tm)) : C2 A B tm mx m
inductive C3 (z : Int) (tm : Tok) (mx : Int) (m : FMap) : Prop
  | mk (A3 B3 : Str) (tA tB : Tok) (ha : m (Str.ofString "a") = some (.str A3 tA)) (hb : m (Str.ofString "b") = some (.str B3 tB)) (hm : m (Str.ofString "max_cost") = some (.int mx tm)) (k1 : A3.length ≠ 0) (k2 : A3.length ≤ B3.length) (k3 : B3.length ≤ 40) (hV : z = levCore (tl A3) (tl B3) mx) : C3 z tm mx m
inductive O1 (z : Int) (D : Addr) (news : Led) (A3 B3 : Str) (tm : Tok) (mx : Int) (i : Nat) (m : FMap) (nx : Led) : Prop
  | mk (vs : List Value) (row : List Int) (c : Nat) (r : Int) (t tA tB : Tok) (hn : nx = (D, listOf (List.toArray vs) c) :: news) (hI : IntsAre vs row) (hl : row.length = A3.length) (ha : m (Str.ofString "a") = some (.str A3 tA)) (hb : m (Str.ofString "b") = some (.str B3 tB)) (hm : m (Str.ofString "max_cost") = some (.int mx tm)) (hr : m (Str.ofString "row") = some (.ref D)) (hres : m (Str.ofString "result") = some (.int r t)) (hV : z = outGo (tl A3) mx ((tl B3).drop i) i row r) : O1 z D news A3 B3 tm mx i m nx
inductive I1 (z : LSt) (D : Addr) (news : Led) (A3 B3 : Str) (tm : Tok) (mx : Int) (i k : Nat) (m : FMap) (nx : Led) : Prop
  | mk (vs : List Value) (st : LSt) (c : Nat) (t1 t2 t3 tA tB tC : Tok) (hn : nx = (D, listOf (List.toArray vs) c) :: news) (hI : IntsAre vs st.row) (hl : st.row.length = A3.length) (ha : m (Str.ofString "a") = some (.str A3 tA)) (hb : m (Str.ofString "b") = some (.str B3 tB)) (hm : m (Str.ofString "max_cost") = some (.int mx tm)) (hr : m (Str.ofString "row") = some (.ref D)) (hbc : m (Str.ofString "bchar") = some (.str (Txt.item B3 (i : Int)) tC)) (hd : m (Str.ofString "distance") = some (.int st.d t1)) (hr1 : m (Str.ofString "result") = some (.int st.r t2)) (hm1 : m (Str.ofString "minimum") = some (.int st.mn t3)) (hG : z = inGo ((tl B3).getD i 0) ((tl A3).drop k) k st) : I1 z D news A3 B3 tm mx i k m nx
set_option maxHeartbeats 8000000 in
theorem lev_ok (w : World) (x y : Str) (tx ty tm : Tok) (mx : Int) (hx : x.length ≤ 60) (hy : y.length ≤ 60) (hm1 : -1000 ≤ mx) (hm2 : mx ≤ 1000) : ClN 5 w 28 [.str x tx, .str y ty, .int mx tm] fun v new => ∃ t, new = [] ∧ v = .int (levS x y mx) t := by
  delta ClN
  k_fill
  intro dp un gd cn cs a ccd cl outer A₀ base h₀ L m news s Q E mean mg mb B F X N T hk hd hu hret
  refine wpAny_call ?_
  refine' code_def (binds := [(Str.ofString "a", .str x tx), (Str.ofString "b", .str y ty), (Str.ofString "max_cost", .int mx tm)]) ?k1 ?k2 ?k3 ?k4 ?k5 ?kA ?kF ?kK ?k6 ?k7 ?k8 ?k9 ?kB ?_ ?c2 ?c3 ?c4 ?c5
  k_dflt (( (case k1 => k_asm); (case k2 => k_asm); (case k3 => k_asm); (case k4 => k_asm); (case k5 => k_asm); (case kA => exact rfl); (case kF => exact rfl); (case kK => assumption); (case k6 => k_is); (case k7 => k_is); (case k8 => ktr_room); (case k9 => exact BindsTo.of_eq rfl); (case c5 => decide); (case kB => exact locs rfl); (case c2 => exact rfl); (case c3 => exact rfl); (case c4 => exact rfl); k_whole; intro qg' qL' qh' qFG' qF' qN' qB' qX' qT'; dsimp only [List.reverse, List.reverseAux] at qF'; (try dsimp only); (try k_lift qB'); (try k_fold)))
  (repeat' ( (fail_if_success (with_reducible show wpAny _ _ (exec (Stmt.While _ _ _ _) _) _ _ _)); (fail_if_success (with_reducible show wpAny _ _ (exec (Stmt.For _ _ _ _ _) _) _ _ _)); (first | (k_unfold; (try dsimp only)) | (k_end; wrow_close) | walk1 | (dsimp only; walk1) | (leave1; walk_say "STEP leave1"; try dsimp only) | fail "no step")))
  rotate_left
  · (with_reducible rename Fr _ _ _ _ => kF)
    (with_reducible rename News _ _ _ _ => kN)
    refine while_cut (n₀ := x.length) (fun n m₁ => W1 x y tx ty tm mx n m₁)
      (fun m₁ => W1e x y tx ty tm mx m₁) kF kN ?wj0 ?wturn ?wrest ?wE
    case wE => first | passes_own | with_unfolding_all passes_own
    case wj0 => exact ⟨rfl, rfl, rfl, 0, _, rfl, rfl, pre_zero x y⟩
    case wturn =>
      intro n m₁ h₁ tk₁ hj F N
      obtain ⟨ha, hb, hm, i, t, hp, hn, hpre⟩ := hj
      (try k_sweep)
      k_fold
      have h0 := hpre.1
      have h1 := hpre.2.1
      have h2 := hpre.2.2.1
      have l1 := len_from h0 h1
      have l2 := len_from h0 h2
      (repeat' ( (fail_if_success (with_reducible show wpAny _ _ (exec (Stmt.While _ _ _ _) _) _ _ _)); (fail_if_success (with_reducible show wpAny _ _ (exec (Stmt.For _ _ _ _ _) _) _ _ _)); (first | (k_unfold; (try dsimp only)) | (k_end; wrow_close) | walk1 | (dsimp only; walk1) | (leave1; walk_say "STEP leave1"; try dsimp only) | fail "no step")))
      all_goals first
        | ((((with_reducible show WDone _ _ _ _ _ _); refine' ⟨_, _, _, rfl, ?zf, ?zn, ?_⟩; (case zf => k_asm); (case zn => (first | k_asm | (refine' cb_drop ?zN ?zS; (case zN => assumption); (case zS => kcj_all))))))
           refine ⟨ha, hb, hm, i, _, hp, hpre, ?_⟩
           first | (exact .inl (by (first | lia | omega))) | (exact .inr (.inl (by (first | lia | omega)))) | (exact .inr (.inr (ne_of_beq_false (by assumption)))))
        | ((((with_reducible show WStep _ _ _ _ _ _ _ _); refine' ⟨rfl, _, _, _, rfl, ?zf, ?zn, ?_⟩; (case zf => k_asm); (case zn => (first | k_asm | (refine' cb_drop ?zN ?zS; (case zN => assumption); (case zS => kcj_all))))))
           exact ⟨x.length - (i + 1).toNat, by (first | lia | omega), ⟨ha, hb, hm, i + 1, _, rfl, rfl, pre_step hpre (by (first | lia | omega)) (by (first | lia | omega)) (by assumption)⟩⟩)
    case wrest =>
      intro m₁ h₁ tk₁ hj F N
      obtain ⟨ha, hb, hm, i, t, hp, hpre⟩ := hj
      have hpA := hpre
      (try k_sweep)
      try k_unfold
      have h0 := hpre.1.1
      have h1 := hpre.1.2.1
      have h2 := hpre.1.2.2.1
      have l1 := len_from h0 h1
      have l2 := len_from h0 h2
      (repeat' ( (fail_if_success (with_reducible show wpAny _ _ (exec (Stmt.While _ _ _ _) _) _ _ _)); (fail_if_success (with_reducible show wpAny _ _ (exec (Stmt.For _ _ _ _ _) _) _ _ _)); (first | (k_unfold; (try dsimp only)) | (k_end; wrow_close) | walk1 | (dsimp only; walk1) | (leave1; walk_say "STEP leave1"; try dsimp only) | fail "no step")))
      generalize hAe : Txt.slice x (some i) none = A at *
      generalize hBe : Txt.slice y (some i) none = B at *
      (with_reducible rename Fr _ _ _ _ => kF)
      (with_reducible rename News _ _ _ _ => kN)
      refine while_cut (n₀ := A.length) (fun n m₁ => W2 A B tm mx n m₁)
        (fun m₁ => W2e A B tm mx m₁) kF kN ?vj0 ?vturn ?vrest ?vE
      case vE => first | passes_own | with_unfolding_all passes_own
      case vj0 => exact ⟨_, _, rfl, rfl, hm, 0, _, rfl, rfl, post_zero A B⟩
      case vturn =>
        intro n m₁ h₁ tk₁ hj F N
        obtain ⟨tA, tB, ha, hb, hm, p, t, hp, hn, hpre⟩ := hj
        (try k_sweep)
        k_fold
        have h0 := hpre.1
        have h1 := hpre.2.1
        have h2 := hpre.2.2.1
        rcases Int.lt_or_eq_of_le h0 with hp0 | rfl
        · have l1 := len_to_neg hp0 h1
          have l2 := len_to_neg hp0 h2
          (repeat' ( (fail_if_success (with_reducible show wpAny _ _ (exec (Stmt.While _ _ _ _) _) _ _ _)); (fail_if_success (with_reducible show wpAny _ _ (exec (Stmt.For _ _ _ _ _) _) _ _ _)); (first | (k_unfold; (try dsimp only)) | (k_end; wrow_close) | walk1 | (dsimp only; walk1) | (leave1; walk_say "STEP leave1"; try dsimp only) | fail "no step")))
          all_goals first
            | (exfalso; (first | lia | omega))
            | ((((with_reducible show WDone _ _ _ _ _ _); refine' ⟨_, _, _, rfl, ?zf, ?zn, ?_⟩; (case zf => k_asm); (case zn => (first | k_asm | (refine' cb_drop ?zN ?zS; (case zN => assumption); (case zS => kcj_all))))))
               refine ⟨_, _, ha, hb, hm, p, _, hp, hpre, ?_⟩
               first | (exact .inl (by (first | lia | omega))) | (exact .inr (.inl (by (first | lia | omega)))) | (exact .inr (.inr (ne_of_beq_false (by assumption)))))
            | ((((with_reducible show WStep _ _ _ _ _ _ _ _); refine' ⟨rfl, _, _, _, rfl, ?zf, ?zn, ?_⟩; (case zf => k_asm); (case zn => (first | k_asm | (refine' cb_drop ?zN ?zS; (case zN => assumption); (case zS => kcj_all))))))
               exact ⟨A.length - (-(p - 1)).toNat, by (first | lia | omega), ⟨_, _, ha, hb, hm, p - 1, _, rfl, rfl, post_step hpre (by (first | lia | omega)) (by (first | lia | omega)) (by assumption)⟩⟩)
        · have l1 := congrArg Str.length (slice_all A)
          have l2 := congrArg Str.length (slice_all B)
          (repeat' ( (fail_if_success (with_reducible show wpAny _ _ (exec (Stmt.While _ _ _ _) _) _ _ _)); (fail_if_success (with_reducible show wpAny _ _ (exec (Stmt.For _ _ _ _ _) _) _ _ _)); (first | (k_unfold; (try dsimp only)) | (k_end; wrow_close) | walk1 | (dsimp only; walk1) | (leave1; walk_say "STEP leave1"; try dsimp only) | fail "no step")))
          all_goals first
            | (exfalso; (first | lia | omega))
            | ((((with_reducible show WDone _ _ _ _ _ _); refine' ⟨_, _, _, rfl, ?zf, ?zn, ?_⟩; (case zf => k_asm); (case zn => (first | k_asm | (refine' cb_drop ?zN ?zS; (case zN => assumption); (case zS => kcj_all))))))
               refine ⟨_, _, ha, hb, hm, 0, _, hp, hpre, ?_⟩
               first | (exact .inl (by (first | lia | omega))) | (exact .inr (.inl (by (first | lia | omega)))) | (exact .inr (.inr (ne_of_beq_false (by assumption)))))
            | ((((with_reducible show WStep _ _ _ _ _ _ _ _); refine' ⟨rfl, _, _, _, rfl, ?zf, ?zn, ?_⟩; (case zf => k_asm); (case zn => (first | k_asm | (refine' cb_drop ?zN ?zS; (case zN => assumption); (case zS => kcj_all))))))
               exact ⟨A.length - (-(0 - 1 : Int)).toNat, by (first | lia | omega), ⟨_, _, ha, hb, hm, 0 - 1, _, rfl, rfl, post_step hpre (by (first | lia | omega)) (by (first | lia | omega)) (by assumption)⟩⟩)
      case vrest =>
        intro m₁ h₁ tk₁ hj F N
        obtain ⟨tA, tB, ha, hb, hm, p, t, hp, hpre⟩ := hj
        (try k_sweep)
        have h0 := hpre.1.1
        have h1 := hpre.1.2.1
        have h2 := hpre.1.2.2.1
        (repeat' ( (fail_if_success (with_reducible show wpAny _ _ (exec _ _) _ _ _)); (first | (k_unfold; (try dsimp only)) | (k_end; wrow_close) | walk1 | (dsimp only; walk1) | (leave1; walk_say "STEP leave1"; try dsimp only) | fail "no step")))
        (with_reducible rename Fr _ _ _ _ => kF)
        refine cut_stmt (fun m₁ => C1 (postCut A p) B tm mx p t m₁) news kF ?u1 ?u2
        case u1 =>
          k_fold
          rcases Int.lt_or_eq_of_le h0 with hp0 | rfl
          · have l1 := len_to_neg hp0 h1
            have e : postCut A p = Txt.slice A none (some p) := if_neg (by (first | lia | omega))
            (repeat' ( (fail_if_success (with_reducible show wpAny _ _ (exec (Stmt.While _ _ _ _) _) _ _ _)); (fail_if_success (with_reducible show wpAny _ _ (exec (Stmt.For _ _ _ _ _) _) _ _ _)); (first | (k_unfold; (try dsimp only)) | (k_end; wrow_close) | walk1 | (dsimp only; walk1) | (leave1; walk_say "STEP leave1"; try dsimp only) | fail "no step")))
            all_goals first | (exfalso; (first | lia | omega)) | ((show WDone _ _ _ _ _ _; refine' ⟨_, _, _, rfl, ?zf, ?zn, ?_⟩; (case zf => k_asm); (case zn => (first | k_asm | (refine' cb_drop ?zN ?zS; (case zN => assumption); (case zS => kcj_all))))))
            exact ⟨_, _, congrArg (fun z => some (Value.str z _)) e.symm, hb, hm, hp⟩
          · have l1 := congrArg Str.length (slice_all A)
            (repeat' ( (fail_if_success (with_reducible show wpAny _ _ (exec (Stmt.While _ _ _ _) _) _ _ _)); (fail_if_success (with_reducible show wpAny _ _ (exec (Stmt.For _ _ _ _ _) _) _ _ _)); (first | (k_unfold; (try dsimp only)) | (k_end; wrow_close) | walk1 | (dsimp only; walk1) | (leave1; walk_say "STEP leave1"; try dsimp only) | fail "no step")))
            all_goals first | (exfalso; (first | lia | omega)) | ((show WDone _ _ _ _ _ _; refine' ⟨_, _, _, rfl, ?zf, ?zn, ?_⟩; (case zf => k_asm); (case zn => (first | k_asm | (refine' cb_drop ?zN ?zS; (case zN => assumption); (case zS => kcj_all))))))
            exact ⟨_, _, congrArg (fun z => some (Value.str z _)) ((if_pos rfl).trans (slice_all A).symm : postCut A 0 = _).symm, hb, hm, hp⟩
        case u2 =>
        clear ha hb hm hp
        intro m₁ h₁ tk₁ hj F N
        obtain ⟨tA, tB, ha, hb, hm, hp⟩ := hj
        (try k_sweep)
        (repeat' ( (fail_if_success (with_reducible show wpAny _ _ (exec _ _) _ _ _)); (first | (k_unfold; (try dsimp only)) | (k_end; wrow_close) | walk1 | (dsimp only; walk1) | (leave1; walk_say "STEP leave1"; try dsimp only) | fail "no step")))
        (with_reducible rename Fr _ _ _ _ => kF)
        refine cut_stmt (fun m₁ => C2 (postCut A p) (postCut B p) tm mx m₁) news kF ?u1 ?u2
        case u1 =>
          k_fold
          rcases Int.lt_or_eq_of_le h0 with hp0 | rfl
          · have l1 := len_to_neg hp0 h2
            have e : postCut B p = Txt.slice B none (some p) := if_neg (by (first | lia | omega))
            (repeat' ( (fail_if_success (with_reducible show wpAny _ _ (exec (Stmt.While _ _ _ _) _) _ _ _)); (fail_if_success (with_reducible show wpAny _ _ (exec (Stmt.For _ _ _ _ _) _) _ _ _)); (first | (k_unfold; (try dsimp only)) | (k_end; wrow_close) | walk1 | (dsimp only; walk1) | (leave1; walk_say "STEP leave1"; try dsimp only) | fail "no step")))
            all_goals first | (exfalso; (first | lia | omega)) | ((show WDone _ _ _ _ _ _; refine' ⟨_, _, _, rfl, ?zf, ?zn, ?_⟩; (case zf => k_asm); (case zn => (first | k_asm | (refine' cb_drop ?zN ?zS; (case zN => assumption); (case zS => kcj_all))))))
            exact ⟨_, _, ha, congrArg (fun z => some (Value.str z _)) e.symm, hm⟩
          · have l1 := congrArg Str.length (slice_all B)
            (repeat' ( (fail_if_success (with_reducible show wpAny _ _ (exec (Stmt.While _ _ _ _) _) _ _ _)); (fail_if_success (with_reducible show wpAny _ _ (exec (Stmt.For _ _ _ _ _) _) _ _ _)); (first | (k_unfold; (try dsimp only)) | (k_end; wrow_close) | walk1 | (dsimp only; walk1) | (leave1; walk_say "STEP leave1"; try dsimp only) | fail "no step")))
            all_goals first | (exfalso; (first | lia | omega)) | ((show WDone _ _ _ _ _ _; refine' ⟨_, _, _, rfl, ?zf, ?zn, ?_⟩; (case zf => k_asm); (case zn => (first | k_asm | (refine' cb_drop ?zN ?zS; (case zN => assumption); (case zS => kcj_all))))))
            exact ⟨_, _, ha, congrArg (fun z => some (Value.str z _)) ((if_pos rfl).trans (slice_all B).symm : postCut B 0 = _).symm, hm⟩
        case u2 =>
        clear ha hb hm hp
        intro m₁ h₁ tk₁ hj F N
        obtain ⟨tA, tB, ha, hb, hm⟩ := hj
        have la : (postCut A p).length ≤ 60 := Nat.le_trans (cut_len h0 h1) (by (first | lia | omega))
        have lb : (postCut B p).length ≤ 60 := Nat.le_trans (cut_len h0 h2) (by (first | lia | omega))
        have hV : levS x y mx = levTail (tl (postCut A p)) (tl (postCut B p)) mx := by
          subst hAe hBe
          exact lev_red (ne_of_beq_false (by assumption)) hpA hpre
        generalize postCut A p = A2 at *
        generalize postCut B p = B2 at *
        (try k_sweep)
        (repeat' ( (fail_if_success (with_reducible show wpAny _ _ (exec (Stmt.If (Expr.Compare _ _ _ _) _ _ _) _) _ _ _)); (first | (k_unfold; (try dsimp only)) | (k_end; wrow_close) | walk1 | (dsimp only; walk1) | (leave1; walk_say "STEP leave1"; try dsimp only) | fail "no step")))
        all_goals try first
          | (refine hret _ [] _ _ (ret_int (hV.trans (lt_nil (by (first | lia | omega))))) ?zf ?zn; (case zf => k_asm); (case zn => (first | k_asm | (refine' cb_drop ?zN ?zS; (case zN => assumption); (case zS => kcj_all)))))
          | (refine hret _ [] _ _ (ret_int (hV.trans (lt_big (by (first | lia | omega)) (by (first | lia | omega)) (by (first | lia | omega))))) ?zf ?zn; (case zf => k_asm); (case zn => (first | k_asm | (refine' cb_drop ?zN ?zS; (case zN => assumption); (case zS => kcj_all)))))
        have hA2 : A2.length ≤ 40 := by (first | lia | omega)
        have hB2 : B2.length ≤ 40 := by (first | lia | omega)
        (with_reducible rename Fr _ _ _ _ => kF)
        refine cut_stmt (fun m₁ => C3 (levS x y mx) tm mx m₁) news kF ?u1 ?u2
        case u1 =>
            k_fold
            (repeat' ( (fail_if_success (with_reducible show wpAny _ _ (exec (Stmt.While _ _ _ _) _) _ _ _)); (fail_if_success (with_reducible show wpAny _ _ (exec (Stmt.For _ _ _ _ _) _) _ _ _)); (first | (k_unfold; (try dsimp only)) | (k_end; wrow_close) | walk1 | (dsimp only; walk1) | (leave1; walk_say "STEP leave1"; try dsimp only) | fail "no step")))
            all_goals ((show WDone _ _ _ _ _ _; refine' ⟨_, _, _, rfl, ?zf, ?zn, ?_⟩; (case zf => k_asm); (case zn => (first | k_asm | (refine' cb_drop ?zN ?zS; (case zN => assumption); (case zS => kcj_all))))))
            · exact ⟨_, _, _, _, rfl, rfl, hm, by (first | lia | omega), by (first | lia | omega), by (first | lia | omega), hV.trans (lt_swap (by (first | lia | omega)) (by (first | lia | omega)) (by (first | lia | omega)) (by (first | lia | omega)) (by (first | lia | omega)))⟩
            · exact ⟨_, _, _, _, ha, hb, hm, by (first | lia | omega), by (first | lia | omega), by (first | lia | omega), hV.trans (lt_keep (by (first | lia | omega)) (by (first | lia | omega)) (by (first | lia | omega)) (by (first | lia | omega)) (by (first | lia | omega)))⟩
        case u2 =>
          clear ha hb hm
          intro m₁ h₁ tk₁ hj F N
          obtain ⟨A3, B3, tA, tB, ha, hb, hm, k1, k2, k3, hV⟩ := hj
          (try k_sweep)
          (repeat' ( (fail_if_success (with_reducible show wpAny _ _ (call (Value.type "list") _) _ _ _)); (first | (k_unfold; (try dsimp only)) | (k_end; wrow_close) | walk1 | (dsimp only; walk1) | (leave1; walk_say "STEP leave1"; try dsimp only) | fail "no step")))
          all_goals try (refine hret _ [] _ _ (ret_int (hV.trans (core_big (by (first | lia | omega))))) ?zf ?zn; (case zf => k_asm); (case zn => (first | k_asm | (refine' cb_drop ?zN ?zS; (case zN => assumption); (case zS => kcj_all)))))
          have hV := hV.trans (core_out (by (first | lia | omega)))
          (rename IsRange _ _ _ _ _ _ _ _ => rgX)
          (rename Fr _ _ _ _ => kF)
          (rename News _ _ _ _ => kN)
          refine list_range2 (n := A3.length) rfl kF kN rgX (by (first | lia | omega)) ?_
          clear kF kN rgX
          intro D us c h' tk' F' N' hD hI'
          (repeat' ( (fail_if_success (with_reducible show wpAny _ _ (exec (Stmt.While _ _ _ _) _) _ _ _)); (fail_if_success (with_reducible show wpAny _ _ (exec (Stmt.For _ _ _ _ _) _) _ _ _)); (first | (k_unfold; (try dsimp only)) | (k_end; wrow_close) | walk1 | (dsimp only; walk1) | (leave1; walk_say "STEP leave1"; try dsimp only) | fail "no step")))
          ((k_here; (rename Fr _ _ _ _ => qlF'); (with_unfolding_all refine' For_invVF qlF' ?k1 ?k2 ?_; (case k1 => exact rfl); (case k2 => exact rfl); k_whole)))
          (repeat' ( (fail_if_success (with_reducible show wpAny _ _ (pyIter _) (fun it s₂ => LoopAtV _ _ _ _ _ _ _ _ _ it s₂) _ _)); (first | (k_unfold; (try dsimp only)) | (k_end; wrow_close) | walk1 | (dsimp only; walk1) | (leave1; walk_say "STEP leave1"; try dsimp only) | fail "no step")))
          (rename IsRange _ _ _ _ _ _ _ _ => rgX)
          (rename Fr _ _ _ _ => kF)
          (rename News _ _ _ _ => kN)
          refine iter_rangeJ (n := B3.length) (fun i m₁ nx => O1 (levS x y mx) D news A3 B3 tm mx i m₁ nx) rfl rgX (small_one (by (first | lia | omega)) (by (first | lia | omega)) (by (first | lia | omega)) (by (first | lia | omega))) ((rangeSize_nat _ _).trans (by (first | lia | omega))) kF kN ⟨us, _, _, _, _, _, _, rfl, hI', rowA_len _ _, ha, hb, hm, rfl, rfl, hV⟩ ?oturn ?odone
          case odone =>
            rintro m₁ nx h tk ⟨vs, row, c, r, t, tA, tB, rfl, hI, hl, ha, hb, hm, hr, hres, hV⟩ F N
            (try k_sweep)
            (repeat' ( (fail_if_success (with_reducible show wpAny _ _ (exec (Stmt.While _ _ _ _) _) _ _ _)); (fail_if_success (with_reducible show wpAny _ _ (exec (Stmt.For _ _ _ _ _) _) _ _ _)); (first | (k_unfold; (try dsimp only)) | (k_end; wrow_close) | walk1 | (dsimp only; walk1) | (leave1; walk_say "STEP leave1"; try dsimp only) | fail "no step")))
            refine hret _ [] _ _ (ret_int (hV.trans (outGo_done (by rw [tl_len]; exact Nat.le_refl _)))) ?zf ?zn
            case zf => k_asm
            case zn => (first | k_asm | (refine' cb_drop ?zN ?zS; (case zN => assumption); (case zS => kcj_all)))
          case oturn =>
            rintro i ti m₁ nx h tk own hi hadr hoff ⟨vs, row, c, r, t, tA, tB, rfl, hI, hl, ha, hb, hm, hr, hres, hV⟩ F N
            (simp only [Int.zero_add] at F)
            (try k_sweep)
            (try k_fold)
            (repeat' ( (fail_if_success (with_reducible show wpAny _ _ (exec (Stmt.While _ _ _ _) _) _ _ _)); (fail_if_success (with_reducible show wpAny _ _ (exec (Stmt.For _ _ _ _ _) _) _ _ _)); (first | (k_unfold; (try dsimp only)) | (k_end; wrow_close) | walk1 | (dsimp only; walk1) | (leave1; walk_say "STEP leave1"; try dsimp only) | fail "no step")))
            ((k_here; (rename Fr _ _ _ _ => qlF'); (with_unfolding_all refine' For_invVF qlF' ?k1 ?k2 ?_; (case k1 => exact rfl); (case k2 => exact rfl); k_whole)))
            (repeat' ( (fail_if_success (with_reducible show wpAny _ _ (pyIter _) (fun it s₂ => LoopAtV _ _ _ _ _ _ _ _ _ it s₂) _ _)); (first | (k_unfold; (try dsimp only)) | (k_end; wrow_close) | walk1 | (dsimp only; walk1) | (leave1; walk_say "STEP leave1"; try dsimp only) | fail "no step")))
            (rename IsRange _ _ _ _ _ _ _ _ => rgX)
            (rename Fr _ _ _ _ => kF)
            (rename News _ _ _ _ => kN)
            refine iter_rangeJ (n := A3.length) (fun k m₁ nx => I1 (inGo ((tl B3).getD i 0) (tl A3) 0 ⟨2 * i, 2 * i, 9223372036854775807, row⟩) D (news ++ own) A3 B3 tm mx i k m₁ nx) rfl rgX (small_one (by (first | lia | omega)) (by (first | lia | omega)) (by (first | lia | omega)) (by (first | lia | omega))) ((rangeSize_nat _ _).trans (by (first | lia | omega))) kF kN ⟨vs, ⟨2 * i, 2 * i, 9223372036854775807, row⟩, _, _, _, _, _, _, _, rfl, hI, hl, ha, hb, hm, hr, rfl, congrArg (fun z => some (Value.int z _)) (show (i : Int) * 2 = 2 * (i : Int) by (first | lia | omega)), congrArg (fun z => some (Value.int z _)) (show (i : Int) * 2 = 2 * (i : Int) by (first | lia | omega)), rfl, rfl⟩ ?iturn ?idone
            case idone =>
              rintro m₁ nx h tk ⟨vs, st, c, t1, t2, t3, tA, tB, tC, rfl, hI, hl, ha, hb, hm, hr, hbc, hd1, hr1, hm1, hG⟩ F N
              (try k_sweep)
              (try k_unfold)
              have hG2 := hG.trans (inGo_done (by rw [tl_len]; exact Nat.le_refl _))
              have hV2 := hV.trans (outGo_step (by rw [tl_len]; exact hi))
              simp only [hG2] at hV2
              (repeat' ( (fail_if_success (with_reducible show wpAny _ _ (exec (Stmt.While _ _ _ _) _) _ _ _)); (fail_if_success (with_reducible show wpAny _ _ (exec (Stmt.For _ _ _ _ _) _) _ _ _)); (first | (k_unfold; (try dsimp only)) | (k_end; wrow_close) | walk1 | (dsimp only; walk1) | (leave1; walk_say "STEP leave1"; try dsimp only) | fail "no step")))
              · refine hret _ [] _ _ (ret_int (hV2.trans (if_pos (by assumption)))) ?zf ?zn
                case zf => k_asm
                case zn => (first | k_asm | (refine' cb_drop ?zN ?zS; (case zN => assumption); (case zS => kcj_all)))
              · (rename Fr _ _ _ _ => kF)
                (rename News _ _ _ _ => kN)
                exact InvEndN.intro kF kN ⟨_, _, _, _, _, _, _, rfl, hI, hl, ha, hb, hm, hr, hr1, hV2.trans (if_neg (by assumption))⟩ rfl (fun p hp => List.mem_append_left _ hp) (fun p hp => List.mem_cons_of_mem _ (List.mem_append_right _ hp))
            case iturn =>
              rintro k ti m₁ nx h tk own₂ hi₂ hadr₂ hoff₂ ⟨vs, st, c, t1, t2, t3, tA, tB, tC, rfl, hI, hl, ha, hb, hm, hr, hbc, hd1, hr1, hm1, hG⟩ F N
              (simp only [Int.zero_add] at F)
              (try k_sweep)
              (try k_fold)
              (repeat' ( (fail_if_success (with_reducible show wpAny _ _ (call (Value.ref _) _) _ _ _)); (first | (k_unfold; (try dsimp only)) | (k_end; wrow_close) | walk1 | (dsimp only; walk1) | (leave1; walk_say "STEP leave1"; try dsimp only) | fail "no step")))
              refine' sub_ok w _ _ _ _ ?l1 ?l2 (dp + 1) (un + 3) gd _ _ _ _ _ _ _ _ _ _ _ _ _ _ _ _ _ _ ?kB ?kF ?kX ?kN ?kT ?kk ?kd ?ku ?_
              case l1 => exact Nat.le_of_eq (len_item _ _)
              case l2 => exact Nat.le_of_eq (len_item _ _)
              case kB => k_asm
              case kF => k_asm
              case kX => k_asm
              case kN => k_asm
              case kT => k_asm
              case kk => exact rfl
              case kd => (first | lia | omega)
              case ku => (first | lia | omega)
              rintro v new h' tk' ⟨tv, rfl, hv⟩ F N
              rw [scStr_items hi hi₂] at hv
              subst hv
              (try simp only [List.nil_append] at N)
              (repeat' ( (fail_if_success (with_reducible show wpAny _ _ (setItem _ _ _) _ _ _)); (first | (k_unfold; (try dsimp only)) | (k_end; wrow_close) | walk1 | (dsimp only; walk1) | (leave1; walk_say "STEP leave1"; try dsimp only) | fail "no step")))
              (rename Fr _ _ _ _ => kF)
              (rename News _ _ _ _ => kN)
              refine set_head kF kN ?hne hI (by (first | lia | omega)) (by (first | lia | omega)) ?_
              case hne =>
                intro p hp
                rcases List.mem_append.mp hp with hp | hp
                · rcases List.mem_append.mp hp with hp | hp
                  · exact Nat.ne_of_lt (hD p hp)
                  · exact hoff p hp D (List.mem_cons_self ..)
                · exact hoff₂ p hp D (List.mem_cons_self ..)
              clear kF kN
              intro h'' F N hI'
              (repeat' ( (fail_if_success (with_reducible show wpAny _ _ (exec (Stmt.While _ _ _ _) _) _ _ _)); (fail_if_success (with_reducible show wpAny _ _ (exec (Stmt.For _ _ _ _ _) _) _ _ _)); (first | (k_unfold; (try dsimp only)) | (k_end; wrow_close) | walk1 | (dsimp only; walk1) | (leave1; walk_say "STEP leave1"; try dsimp only) | fail "no step")))
              all_goals (rename Fr _ _ _ _ => kF)
              all_goals (rename News _ _ _ _ => kN)
              all_goals first
                | exact InvEndN.intro kF kN ⟨_, inStep _ _ k st, _, _, _, _, _, _, _, rfl, hI', (List.length_set ..).trans hl, ha, hb, hm, hr, hbc, rfl, rfl, congrArg (fun z => some (Value.int z _)) (if_pos (by assumption)).symm, hG.trans (inGo_step (by rw [tl_len]; exact hi₂))⟩ rfl (fun p hp => List.mem_append_left _ hp) (fun p hp => List.mem_cons_of_mem _ (List.mem_append_right _ hp))
                | exact InvEndN.intro kF kN ⟨_, inStep _ _ k st, _, _, _, _, _, _, _, rfl, hI', (List.length_set ..).trans hl, ha, hb, hm, hr, hbc, rfl, rfl, hm1.trans (congrArg (fun z => some (Value.int z _)) (if_neg (by assumption)).symm), hG.trans (inGo_step (by rw [tl_len]; exact hi₂))⟩ rfl (fun p hp => List.mem_append_left _ hp) (fun p hp => List.mem_cons_of_mem _ (List.mem_append_right _ hp))

  · refine hret _ [] _ _ (ret_int ?ze) ?zf ?zn
    case zf => k_asm
    case zn => (first | k_asm | (refine' cb_drop ?zN ?zS; (case zN => assumption); (case zS => kcj_all)))
    case ze => exact (by rw [beq_iff_eq.mp (by assumption : (x == y) = true)]; exact levS_eq _ _)
end Mine
end

section
open PySem PySem.W PyProof.Rows
set_option maxRecDepth 100000
namespace Mine
-- a local whose value a fact tells

local macro_rules | `(tactic| walk_at "getMethod ref") => `(tactic| (refine meth_b3 (by k_in) ?_))
noncomputable def b3S (c : Nat) : Str := match b3f c with
  | some (.str x _) => x
  | _ => Txt.lower ⟨#[c]⟩
theorem ret_strXFn5 {a b : Str} {t : Tok} (h : b = a) : ∃ t', ([] : Led) = [] ∧ Value.str a t = Value.str b t' := ⟨t, rfl, by rw [h]⟩
set_option maxHeartbeats 8000000 in
theorem b1_ok (w : World) (c : Nat) (tc : Tok)  : ClN 2 w 88 [.str ⟨#[c]⟩ tc] fun v new => new = [] ∧ v = .bool (b1mem c) := by
  delta ClN
  k_fill
  intro dp un gd cn cs a ccd cl outer A₀ base h₀ L m news s Q E mean mg mb B F X N T hk hd hu hret
  refine wpAny_call ?_
  refine' code_def (binds := [(Str.ofString "code", .str ⟨#[c]⟩ tc)]) ?k1 ?k2 ?k3 ?k4 ?k5 ?kA ?kF ?kK ?k6 ?k7 ?k8 ?k9 ?kB ?_ ?c2 ?c3 ?c4 ?c5
  k_dflt (( (case k1 => k_asm); (case k2 => k_asm); (case k3 => k_asm); (case k4 => k_asm); (case k5 => k_asm); (case kA => exact rfl); (case kF => exact rfl); (case kK => assumption); (case k6 => k_is); (case k7 => k_is); (case k8 => ktr_room); (case k9 => exact BindsTo.of_eq rfl); (case c5 => decide); (case kB => exact locs rfl); (case c2 => exact rfl); (case c3 => exact rfl); (case c4 => exact rfl); k_whole; intro qg' qL' qh' qFG' qF' qN' qB' qX' qT'; dsimp only [List.reverse, List.reverseAux] at qF'; (try dsimp only); (try k_lift qB'); (try k_fold)))
  (repeat' ( (fail_if_success (with_reducible show wpAny _ _ (exec (Stmt.While _ _ _ _) _) _ _ _)); (fail_if_success (with_reducible show wpAny _ _ (exec (Stmt.For _ _ _ _ _) _) _ _ _)); (first | ((with_reducible show wpAny _ _ (call (Value.builtin "dict.get") _) _ _ _); (refine get_b3 (by k_in) (by assumption) ?_)) | ((with_reducible show wpAny _ _ (compareOp CmpOp.In (Value.int _ _) (Value.ref _)) _ _ _); (refine in_b1 (by k_in) ?_)) | (k_unfold; (try dsimp only)) | (k_end; wrow_close) | walk1 | (dsimp only; walk1) | (leave1; walk_say "STEP leave1"; try dsimp only) | fail "no step")))
  refine hret _ [] _ _ ⟨rfl, rfl⟩ ?zf ?zn
  case zf => k_asm
  case zn => (first | k_asm | (refine' cb_drop ?zN ?zS; (case zN => assumption); (case zS => kcj_all)))
set_option maxHeartbeats 8000000 in
theorem b3_ok (w : World) (c : Nat) (tc : Tok) (hb : b3f c = none ∨ ∃ x tx, b3f c = some (.str x tx)) : ClN 2 w 134 [.str ⟨#[c]⟩ tc] fun v new => ∃ t, new = [] ∧ v = .str (b3S c) t := by
  delta ClN
  k_fill
  intro dp un gd cn cs a ccd cl outer A₀ base h₀ L m news s Q E mean mg mb B F X N T hk hd hu hret
  refine wpAny_call ?_
  refine' code_def (binds := [(Str.ofString "code", .str ⟨#[c]⟩ tc)]) ?k1 ?k2 ?k3 ?k4 ?k5 ?kA ?kF ?kK ?k6 ?k7 ?k8 ?k9 ?kB ?_ ?c2 ?c3 ?c4 ?c5
  k_dflt (( (case k1 => k_asm); (case k2 => k_asm); (case k3 => k_asm); (case k4 => k_asm); (case k5 => k_asm); (case kA => exact rfl); (case kF => exact rfl); (case kK => assumption); (case k6 => k_is); (case k7 => k_is); (case k8 => ktr_room); (case k9 => exact BindsTo.of_eq rfl); (case c5 => decide); (case kB => exact locs rfl); (case c2 => exact rfl); (case c3 => exact rfl); (case c4 => exact rfl); k_whole; intro qg' qL' qh' qFG' qF' qN' qB' qX' qT'; dsimp only [List.reverse, List.reverseAux] at qF'; (try dsimp only); (try k_lift qB'); (try k_fold)))
  have hlen : (⟨#[c]⟩ : Str).length ≤ 1 := Nat.le_refl 1
  rcases hb with hb | ⟨x, tx, hb⟩
  · have hg : (b3f c).getD .none = .none := by rw [hb]; rfl
    (repeat' ( (fail_if_success (with_reducible show wpAny _ _ (exec (Stmt.While _ _ _ _) _) _ _ _)); (fail_if_success (with_reducible show wpAny _ _ (exec (Stmt.For _ _ _ _ _) _) _ _ _)); (first | ((with_reducible show wpAny _ _ (call (Value.builtin "dict.get") _) _ _ _); (refine get_b3 (by k_in) (by assumption) ?_)) | ((with_reducible show wpAny _ _ (compareOp CmpOp.In (Value.int _ _) (Value.ref _)) _ _ _); (refine in_b1 (by k_in) ?_)) | (k_unfold; (try dsimp only)) | (k_end; wrow_close) | walk1 | (dsimp only; walk1) | (leave1; walk_say "STEP leave1"; try dsimp only) | fail "no step")))
    refine hret _ [] _ _ (ret_strXFn5 (by rw [b3S, hb])) ?zf ?zn
    case zf => k_asm
    case zn => (first | k_asm | (refine' cb_drop ?zN ?zS; (case zN => assumption); (case zS => kcj_all)))
  · have hg : (b3f c).getD .none = .str x tx := by rw [hb]; rfl
    (repeat' ( (fail_if_success (with_reducible show wpAny _ _ (exec (Stmt.While _ _ _ _) _) _ _ _)); (fail_if_success (with_reducible show wpAny _ _ (exec (Stmt.For _ _ _ _ _) _) _ _ _)); (first | ((with_reducible show wpAny _ _ (call (Value.builtin "dict.get") _) _ _ _); (refine get_b3 (by k_in) (by assumption) ?_)) | ((with_reducible show wpAny _ _ (compareOp CmpOp.In (Value.int _ _) (Value.ref _)) _ _ _); (refine in_b1 (by k_in) ?_)) | (k_unfold; (try dsimp only)) | (k_end; wrow_close) | walk1 | (dsimp only; walk1) | (leave1; walk_say "STEP leave1"; try dsimp only) | fail "no step")))
    refine hret _ [] _ _ (ret_strXFn5 (by rw [b3S, hb])) ?zf ?zn
    case zf => k_asm
    case zn => (first | k_asm | (refine' cb_drop ?zN ?zS; (case zN => assumption); (case zS => kcj_all)))

end Mine
end

section
open PySem PySem.W PyProof.Rows
set_option maxRecDepth 100000
namespace Mine
-- a local whose value a fact tells

noncomputable def Okc (c : Nat) : Prop := (b3f c = none ∨ ∃ x tx, b3f c = some (.str x tx)) ∧ 1 ≤ (b3S c).length ∧ (b3S c).length ≤ 4
noncomputable def sigs (l : List Nat) : List Str := (l.filter fun (c : Nat) => !b1mem c).map b3S
theorem sigs_len {l : List Nat} (h : ∀ c ∈ l, Okc c) : ∀ z ∈ sigs l, 1 ≤ z.length ∧ z.length ≤ 4 := by
  intro z hz
  obtain ⟨c, hc, rfl⟩ := List.mem_map.mp hz
  exact (h c (List.mem_filter.mp hc).1).2
theorem sum_le : ∀ {l : List Str}, (∀ z ∈ l, z.length ≤ 4) → (l.map (·.length)).sum ≤ 4 * l.length
  | [], _ => Nat.le_refl 0
  | a :: r, h => by
    have h1 := h a (List.mem_cons_self ..)
    have h2 := sum_le (fun z hz => h z (List.mem_cons_of_mem _ hz))
    simp only [List.map_cons, List.sum_cons, List.length_cons]
    (first | lia | omega)
theorem sigs_short (l : List Nat) : (sigs l).length ≤ l.length := by
  unfold sigs
  rw [List.length_map]
  exact List.length_filter_le ..
theorem sigs_snoc {l : List Nat} {i c : Nat} (h : l[i]? = some c) : sigs (l.take (i + 1)) = sigs (l.take i) ++ sigs [c] := by
  rw [List.take_add_one, h]
  simp [sigs]
theorem strs_len : ∀ {vs : List Value} {ys : List Str}, StrsAre vs ys → vs.length = ys.length
  | _, _, .nil => rfl
  | _, _, .cons _ _ h => by simp [strs_len h]
theorem sigs_no {c : Nat} (h : b1mem c = true) : sigs [c] = [] := by simp [sigs, h]
theorem sigs_yes {c : Nat} (h : b1mem c = false) : sigs [c] = [b3S c] := by simp [sigs, h]
set_option maxHeartbeats 8000000 in
theorem prep_ok (w : World) (y : Str) (ty : Tok) (hy : y.length ≤ 60) (hok : ∀ c ∈ tl y, Okc c) : ClN 4 w 172 [.str y ty] fun v new => ∃ t, new = [] ∧ v = .str (Txt.join (Str.ofString "") (sigs (tl y))) t := by
  delta ClN
  k_fill
  intro dp un gd cn cs a ccd cl outer A₀ base h₀ L m news s Q E mean mg mb B F X N T hk hd hu hret
  refine wpAny_call ?_
  refine' code_def (binds := [(Str.ofString "text", .str y ty)]) ?k1 ?k2 ?k3 ?k4 ?k5 ?kA ?kF ?kK ?k6 ?k7 ?k8 ?k9 ?kB ?_ ?c2 ?c3 ?c4 ?c5
  k_dflt (( (case k1 => k_asm); (case k2 => k_asm); (case k3 => k_asm); (case k4 => k_asm); (case k5 => k_asm); (case kA => exact rfl); (case kF => exact rfl); (case kK => assumption); (case k6 => k_is); (case k7 => k_is); (case k8 => ktr_room); (case k9 => exact BindsTo.of_eq rfl); (case c5 => decide); (case kB => exact locs rfl); (case c2 => exact rfl); (case c3 => exact rfl); (case c4 => exact rfl); k_whole; intro qg' qL' qh' qFG' qF' qN' qB' qX' qT'; dsimp only [List.reverse, List.reverseAux] at qF'; (try dsimp only); (try k_lift qB'); (try k_fold)))
  (repeat' ( (fail_if_success (with_reducible show wpAny _ _ (exec (Stmt.While _ _ _ _) _) _ _ _)); (fail_if_success (with_reducible show wpAny _ _ (exec (Stmt.For _ _ _ _ _) _) _ _ _)); (first | ((with_reducible show wpAny _ _ (call (Value.ref 134) _) _ _ _); (k_here; refine' useV (b3_ok _ _ _ (by assumption)) ?kB ?kF ?kX ?kN ?kT ?kk ?kd ?ku ?_; (((case kB => k_asm); (case kF => k_asm); (case kX => k_asm); (case kN => k_asm); (case kT => k_asm); (case kk => first | assumption | exact rfl); (case kd => first | (first | lia | omega) | ((try simp only [depth_deeper]); (first | lia | omega)) | ktr_room); (case ku => first | (first | lia | omega) | ((try simp only [units_deeper]); (first | lia | omega)) | ktr_units))); ((intro qh' qtk' qt' qF' qN')))) | ((with_reducible show wpAny _ _ (call (Value.ref 88) _) _ _ _); (k_here; refine' useB (b1_ok _ _ _) ?kB ?kF ?kX ?kN ?kT ?kk ?kd ?ku ?_; (((case kB => k_asm); (case kF => k_asm); (case kX => k_asm); (case kN => k_asm); (case kT => k_asm); (case kk => first | assumption | exact rfl); (case kd => first | (first | lia | omega) | ((try simp only [depth_deeper]); (first | lia | omega)) | ktr_room); (case ku => first | (first | lia | omega) | ((try simp only [units_deeper]); (first | lia | omega)) | ktr_units))); (intro qh' qtk' qF' qN'))) | (k_unfold; (try dsimp only)) | (k_end; wrow_close) | walk1 | (dsimp only; walk1) | (leave1; walk_say "STEP leave1"; try dsimp only) | fail "no step")))
  ((k_here; (rename Fr _ _ _ _ => qlF'); (with_unfolding_all refine' For_invVF qlF' ?k1 ?k2 ?_; (case k1 => exact rfl); (case k2 => exact rfl); k_whole)))
  (repeat' ( (fail_if_success (with_reducible show wpAny _ _ (pyIter _) (fun it s₂ => LoopAtV _ _ _ _ _ _ _ _ _ it s₂) _ _)); (first | ((with_reducible show wpAny _ _ (call (Value.ref 134) _) _ _ _); (k_here; refine' useV (b3_ok _ _ _ (by assumption)) ?kB ?kF ?kX ?kN ?kT ?kk ?kd ?ku ?_; (((case kB => k_asm); (case kF => k_asm); (case kX => k_asm); (case kN => k_asm); (case kT => k_asm); (case kk => first | assumption | exact rfl); (case kd => first | (first | lia | omega) | ((try simp only [depth_deeper]); (first | lia | omega)) | ktr_room); (case ku => first | (first | lia | omega) | ((try simp only [units_deeper]); (first | lia | omega)) | ktr_units))); ((intro qh' qtk' qt' qF' qN')))) | ((with_reducible show wpAny _ _ (call (Value.ref 88) _) _ _ _); (k_here; refine' useB (b1_ok _ _ _) ?kB ?kF ?kX ?kN ?kT ?kk ?kd ?ku ?_; (((case kB => k_asm); (case kF => k_asm); (case kX => k_asm); (case kN => k_asm); (case kT => k_asm); (case kk => first | assumption | exact rfl); (case kd => first | (first | lia | omega) | ((try simp only [depth_deeper]); (first | lia | omega)) | ktr_room); (case ku => first | (first | lia | omega) | ((try simp only [units_deeper]); (first | lia | omega)) | ktr_units))); (intro qh' qtk' qF' qN'))) | (k_unfold; (try dsimp only)) | (k_end; wrow_close) | walk1 | (dsimp only; walk1) | (leave1; walk_say "STEP leave1"; try dsimp only) | fail "no step")))
  (rename Fr _ _ _ _ => kF)
  (rename News _ _ _ _ => kN)
  refine iter_strJ (fun i m₁ nx => ∃ (D : Addr) (vs : List Value) (c : Nat), nx = (D, listOf (List.toArray vs) c) :: news ∧ StrsAre vs (sigs ((tl y).take i)) ∧ (∀ p ∈ news, p.1 < D) ∧ m₁ (Str.ofString "signs") = some (.ref D)) rfl kF kN ⟨_, [], 0, rfl, .nil, by assumption, rfl⟩ ?turn ?done
  case done =>
    rintro m₁ nx h tk ⟨D, vs, c, rfl, hI, hD, hsg⟩ F N
    (try k_sweep)
    (try k_unfold)
    have htk : (tl y).take y.cps.size = tl y := List.take_of_length_le (by simp [tl])
    rw [htk] at hI
    have hln := sigs_len hok
    (repeat' ( (fail_if_success (with_reducible show wpAny _ _ (call (Value.builtin "list.append") _) _ _ _)); (fail_if_success (with_reducible show wpAny _ _ (call (Value.builtin "str.join") _) _ _ _)); (first | ((with_reducible show wpAny _ _ (call (Value.ref 134) _) _ _ _); (k_here; refine' useV (b3_ok _ _ _ (by assumption)) ?kB ?kF ?kX ?kN ?kT ?kk ?kd ?ku ?_; (((case kB => k_asm); (case kF => k_asm); (case kX => k_asm); (case kN => k_asm); (case kT => k_asm); (case kk => first | assumption | exact rfl); (case kd => first | (first | lia | omega) | ((try simp only [depth_deeper]); (first | lia | omega)) | ktr_room); (case ku => first | (first | lia | omega) | ((try simp only [units_deeper]); (first | lia | omega)) | ktr_units))); ((intro qh' qtk' qt' qF' qN')))) | ((with_reducible show wpAny _ _ (call (Value.ref 88) _) _ _ _); (k_here; refine' useB (b1_ok _ _ _) ?kB ?kF ?kX ?kN ?kT ?kk ?kd ?ku ?_; (((case kB => k_asm); (case kF => k_asm); (case kX => k_asm); (case kN => k_asm); (case kT => k_asm); (case kk => first | assumption | exact rfl); (case kd => first | (first | lia | omega) | ((try simp only [depth_deeper]); (first | lia | omega)) | ktr_room); (case ku => first | (first | lia | omega) | ((try simp only [units_deeper]); (first | lia | omega)) | ktr_units))); (intro qh' qtk' qF' qN'))) | (k_unfold; (try dsimp only)) | (k_end; wrow_close) | walk1 | (dsimp only; walk1) | (leave1; walk_say "STEP leave1"; try dsimp only) | fail "no step")))
    · exfalso
      obtain ⟨z, hz, he⟩ := List.any_eq_true.mp (by assumption : ((sigs (tl y)).any fun x => x == Str.ofString "") = true)
      have := (hln z hz).1
      rw [beq_iff_eq.mp he] at this
      exact absurd this (by decide)
    · (rename News _ _ _ _ => kN)
      refine join_head kN hI ?_ ?_
      · have h1 := sum_le (fun z hz => (hln z hz).2)
        have h2 := sigs_short (tl y)
        rw [tl_len] at h2
        have h3 : (Str.ofString "").length = 0 := by decide
        rw [h3]
        (first | lia | omega)
      intro t' k'
      (repeat' ( (fail_if_success (with_reducible show wpAny _ _ (exec (Stmt.While _ _ _ _) _) _ _ _)); (fail_if_success (with_reducible show wpAny _ _ (exec (Stmt.For _ _ _ _ _) _) _ _ _)); (first | ((with_reducible show wpAny _ _ (call (Value.ref 134) _) _ _ _); (k_here; refine' useV (b3_ok _ _ _ (by assumption)) ?kB ?kF ?kX ?kN ?kT ?kk ?kd ?ku ?_; (((case kB => k_asm); (case kF => k_asm); (case kX => k_asm); (case kN => k_asm); (case kT => k_asm); (case kk => first | assumption | exact rfl); (case kd => first | (first | lia | omega) | ((try simp only [depth_deeper]); (first | lia | omega)) | ktr_room); (case ku => first | (first | lia | omega) | ((try simp only [units_deeper]); (first | lia | omega)) | ktr_units))); ((intro qh' qtk' qt' qF' qN')))) | ((with_reducible show wpAny _ _ (call (Value.ref 88) _) _ _ _); (k_here; refine' useB (b1_ok _ _ _) ?kB ?kF ?kX ?kN ?kT ?kk ?kd ?ku ?_; (((case kB => k_asm); (case kF => k_asm); (case kX => k_asm); (case kN => k_asm); (case kT => k_asm); (case kk => first | assumption | exact rfl); (case kd => first | (first | lia | omega) | ((try simp only [depth_deeper]); (first | lia | omega)) | ktr_room); (case ku => first | (first | lia | omega) | ((try simp only [units_deeper]); (first | lia | omega)) | ktr_units))); (intro qh' qtk' qF' qN'))) | (k_unfold; (try dsimp only)) | (k_end; wrow_close) | walk1 | (dsimp only; walk1) | (leave1; walk_say "STEP leave1"; try dsimp only) | fail "no step")))
      refine hret _ [] _ _ ⟨_, rfl, rfl⟩ ?zf ?zn
      case zf => k_asm
      case zn => (first | k_asm | (refine' cb_drop ?zN ?zS; (case zN => assumption); (case zS => kcj_all)))
  case turn =>
    rintro i c ti m₁ nx h tk own hi hadr hoff ⟨D, vs, cc, rfl, hI, hD, hsg⟩ F N
    (try k_sweep)
    (try k_fold)
    have hc := (hok c (List.mem_of_getElem? (by rw [← hi]; simp [tl] : (tl y)[i]? = some c))).1
    have hct : (tl y)[i]? = some c := by rw [← hi]; simp [tl]
    have hvl : vs.length ≤ 60 := by
      have h1 := strs_len hI
      have h2 := sigs_short ((tl y).take i)
      have h3 : ((tl y).take i).length ≤ (tl y).length := by rw [List.length_take]; exact Nat.min_le_right ..
      rw [tl_len] at h3
      (first | lia | omega)
    (repeat' ( (fail_if_success (with_reducible show wpAny _ _ (call (Value.builtin "list.append") _) _ _ _)); (fail_if_success (with_reducible show wpAny _ _ (call (Value.builtin "str.join") _) _ _ _)); (first | ((with_reducible show wpAny _ _ (call (Value.ref 134) _) _ _ _); (k_here; refine' useV (b3_ok _ _ _ (by assumption)) ?kB ?kF ?kX ?kN ?kT ?kk ?kd ?ku ?_; (((case kB => k_asm); (case kF => k_asm); (case kX => k_asm); (case kN => k_asm); (case kT => k_asm); (case kk => first | assumption | exact rfl); (case kd => first | (first | lia | omega) | ((try simp only [depth_deeper]); (first | lia | omega)) | ktr_room); (case ku => first | (first | lia | omega) | ((try simp only [units_deeper]); (first | lia | omega)) | ktr_units))); ((intro qh' qtk' qt' qF' qN')))) | ((with_reducible show wpAny _ _ (call (Value.ref 88) _) _ _ _); (k_here; refine' useB (b1_ok _ _ _) ?kB ?kF ?kX ?kN ?kT ?kk ?kd ?ku ?_; (((case kB => k_asm); (case kF => k_asm); (case kX => k_asm); (case kN => k_asm); (case kT => k_asm); (case kk => first | assumption | exact rfl); (case kd => first | (first | lia | omega) | ((try simp only [depth_deeper]); (first | lia | omega)) | ktr_room); (case ku => first | (first | lia | omega) | ((try simp only [units_deeper]); (first | lia | omega)) | ktr_units))); (intro qh' qtk' qF' qN'))) | (k_unfold; (try dsimp only)) | (k_end; wrow_close) | walk1 | (dsimp only; walk1) | (leave1; walk_say "STEP leave1"; try dsimp only) | fail "no step")))
    · (rename Fr _ _ _ _ => kF)
      (rename News _ _ _ _ => kN)
      refine append_head kF kN ?_ (by (first | lia | omega)) ?_
      · intro p hp
        rcases List.mem_append.mp hp with hp | hp
        · exact Nat.ne_of_lt (hD p hp)
        · exact hoff p hp D (by rw [← hadr]; exact List.mem_cons_self ..)
      clear kF kN
      intro h' F N
      (repeat' ( (fail_if_success (with_reducible show wpAny _ _ (exec (Stmt.While _ _ _ _) _) _ _ _)); (fail_if_success (with_reducible show wpAny _ _ (exec (Stmt.For _ _ _ _ _) _) _ _ _)); (first | ((with_reducible show wpAny _ _ (call (Value.ref 134) _) _ _ _); (k_here; refine' useV (b3_ok _ _ _ (by assumption)) ?kB ?kF ?kX ?kN ?kT ?kk ?kd ?ku ?_; (((case kB => k_asm); (case kF => k_asm); (case kX => k_asm); (case kN => k_asm); (case kT => k_asm); (case kk => first | assumption | exact rfl); (case kd => first | (first | lia | omega) | ((try simp only [depth_deeper]); (first | lia | omega)) | ktr_room); (case ku => first | (first | lia | omega) | ((try simp only [units_deeper]); (first | lia | omega)) | ktr_units))); ((intro qh' qtk' qt' qF' qN')))) | ((with_reducible show wpAny _ _ (call (Value.ref 88) _) _ _ _); (k_here; refine' useB (b1_ok _ _ _) ?kB ?kF ?kX ?kN ?kT ?kk ?kd ?ku ?_; (((case kB => k_asm); (case kF => k_asm); (case kX => k_asm); (case kN => k_asm); (case kT => k_asm); (case kk => first | assumption | exact rfl); (case kd => first | (first | lia | omega) | ((try simp only [depth_deeper]); (first | lia | omega)) | ktr_room); (case ku => first | (first | lia | omega) | ((try simp only [units_deeper]); (first | lia | omega)) | ktr_units))); (intro qh' qtk' qF' qN'))) | (k_unfold; (try dsimp only)) | (k_end; wrow_close) | walk1 | (dsimp only; walk1) | (leave1; walk_say "STEP leave1"; try dsimp only) | fail "no step")))
      (rename Fr _ _ _ _ => kF)
      (rename News _ _ _ _ => kN)
      exact InvEndN.intro kF kN ⟨D, vs ++ [_], cc + 1, rfl, by rw [sigs_snoc hct, sigs_yes (by simpa using (by assumption : (b1mem (c : Int) == false) = true))]; exact StrsAre.append' hI (.cons _ _ .nil), hD, hsg⟩ (by exact hadr) (fun p hp => List.mem_append_left _ hp) (fun p hp => List.mem_cons_of_mem _ (List.mem_append_right _ hp))
    · exfalso
      cases hbb : b1mem (c : Int) <;> simp_all
    · (rename Fr _ _ _ _ => kF)
      (rename News _ _ _ _ => kN)
      exact InvEndN.intro kF kN ⟨D, vs, cc, rfl, by rw [sigs_snoc hct, sigs_no (by simpa using (by assumption : (b1mem (c : Int) != true) = false)), List.append_nil]; exact hI, hD, hsg⟩ (by exact hadr) (fun p hp => List.mem_append_left _ hp) (fun p hp => List.mem_cons_of_mem _ (List.mem_append_right _ hp))

end Mine
end

section
open PySem PySem.W PyProof.Rows
set_option maxRecDepth 100000
namespace Mine
-- a local whose value a fact tells

noncomputable def Fours (ns : List Int) (b : Int) : Prop := ns.length = 4 ∧ ∀ x ∈ ns, 0 ≤ x ∧ x ≤ b
theorem fours_set {ks : List Int} {b c : Int} {j : Nat} (y : Int) (h : Fours ks b) (hb : 0 ≤ b) (hc : b + 1000000 ≤ c) : Fours (ks.set j (ks.getD j 0 + Int.fmod y 1000000)) c := by
  have f0 : 0 ≤ Int.fmod y 1000000 := Int.fmod_nonneg_of_pos _ (by decide)
  have f1 : Int.fmod y 1000000 < 1000000 := Int.fmod_lt_of_pos _ (by decide)
  have g : 0 ≤ ks.getD j 0 ∧ ks.getD j 0 ≤ b := by
    by_cases hj : j < ks.length
    · rw [List.getD_eq_getElem?_getD, List.getElem?_eq_getElem hj]
      exact h.2 _ (List.getElem_mem hj)
    · rw [List.getD_eq_getElem?_getD, List.getElem?_eq_none (by (first | lia | omega))]
      exact ⟨by decide, hb⟩
  refine ⟨(List.length_set ..).trans h.1, fun x hx => ?_⟩
  rcases List.mem_or_eq_of_mem_set hx with hx | rfl
  · have := h.2 x hx
    (first | lia | omega)
  · (first | lia | omega)
set_option maxHeartbeats 8000000 in
theorem draws_ok (w : World) (r : Addr) (vs : List Value) (ns : List Int) : ∀ (dp un : Nat) (gd : Option (List Code)) (cn : Str) (cs : Scope) (a : Addr) (ccd : Value) (cl : List (Str × Addr)) (outer : List Env) (A₀ : Around) (base h₀ : Heap) (L : Addr) (m : FMap) (news : Led) (s : Shared) (Q E : Value → Shared → Prop)
    (mean : ExcName → Option Value) (mg mb : FMap), base.IsList r vs.toArray → IntsAre vs ns → ns.length ≤ 63 →
    Below A₀ base outer h₀ → Fr h₀ L s.heap m → (KK w.params).In h₀ → News h₀ L s.heap news → Top qv (looseW qv loose0) mean mg mb h₀ → cs.kind = .function → dp + 2 < recursionLimit → un + 8 * 2 < cLine →
    (∀ (D : Addr) (us : List Value) (c : Nat) (ks : List Int) (h' : Heap) (tk' : Nat), IntsAre us ks → Fours ks 100000000 → (∀ p ∈ news, p.1 < D) → Fr h₀ L h' m → News h₀ L h' ((D, listOf (List.toArray us) c) :: news) → Q (.ref D) { s with heap := h', toks := tk' }) →
    wpAny (model r0.prog w) (ktrTop dp un gd cn cs L a ccd cl outer) (call (.ref 141) [.ref r]) Q E s := by
  k_fill
  intro dp un gd cn cs a ccd cl outer A₀ base h₀ L m news s Q E mean mg mb hl hi hn B F X N T hk hd hu hret
  refine wpAny_call ?_
  refine' code_def (binds := [(Str.ofString "script", .ref r)]) ?k1 ?k2 ?k3 ?k4 ?k5 ?kA ?kF ?kK ?k6 ?k7 ?k8 ?k9 ?kB ?_ ?c2 ?c3 ?c4 ?c5
  k_dflt (( (case k1 => k_asm); (case k2 => k_asm); (case k3 => k_asm); (case k4 => k_asm); (case k5 => k_asm); (case kA => exact rfl); (case kF => exact rfl); (case kK => assumption); (case k6 => k_is); (case k7 => k_is); (case k8 => ktr_room); (case k9 => exact BindsTo.of_eq rfl); (case c5 => decide); (case kB => exact locs rfl); (case c2 => exact rfl); (case c3 => exact rfl); (case c4 => exact rfl); k_whole; intro qg' qL' qh' qFG' qF' qN' qB' qX' qT'; dsimp only [List.reverse, List.reverseAux] at qF'; (try dsimp only); (try k_lift qB'); (try k_fold)))
  (repeat' ( (fail_if_success (with_reducible show wpAny _ _ (exec (Stmt.While _ _ _ _) _) _ _ _)); (fail_if_success (with_reducible show wpAny _ _ (exec (Stmt.For _ _ _ _ _) _) _ _ _)); (first | (k_unfold; (try dsimp only)) | (k_end; wrow_close) | walk1 | (dsimp only; walk1) | (leave1; walk_say "STEP leave1"; try dsimp only) | fail "no step")))
  ((k_here; (rename Fr _ _ _ _ => qlF'); (with_unfolding_all refine' For_invVF qlF' ?k1 ?k2 ?_; (case k1 => exact rfl); (case k2 => exact rfl); k_whole)))
  (repeat' ( (fail_if_success (with_reducible show wpAny _ _ (pyIter _) (fun it s₂ => LoopAtV _ _ _ _ _ _ _ _ _ it s₂) _ _)); (first | (k_unfold; (try dsimp only)) | (k_end; wrow_close) | walk1 | (dsimp only; walk1) | (leave1; walk_say "STEP leave1"; try dsimp only) | fail "no step")))
  rename_i tk0 D h2 hD h1 F1 N1 hh tkk t1 u1 v1 rgX kF kN e4
  refine iter_rangeJ (n := ns.length) (fun i m₁ nx => ∃ (vs' : List Value) (c : Nat) (ks : List Int), nx = (D, listOf (List.toArray vs') c) :: news ∧ IntsAre vs' ks ∧ Fours ks (10000 + (i : Int) * 1000000) ∧ m₁ (Str.ofString "draws") = some (.ref D) ∧ m₁ (Str.ofString "script") = some (.ref r)) rfl rgX (small_one (by (first | lia | omega)) (by (first | lia | omega)) (by (first | lia | omega)) (by (first | lia | omega))) ((rangeSize_nat _ _).trans (by (first | lia | omega))) kF kN ⟨_, _, [870, 8, 2410, 9], rfl, .cons _ _ (.cons _ _ (.cons _ _ (.cons _ _ .nil))), ⟨rfl, by decide⟩, rfl, rfl⟩ ?turn ?done
  case done =>
    rintro m₁ nx h tk ⟨vs', c, ks, rfl, hI, hf, hdr, hsc⟩ F N
    (try k_sweep)
    (try k_unfold)
    (repeat' ( (fail_if_success (with_reducible show wpAny _ _ (exec (Stmt.While _ _ _ _) _) _ _ _)); (fail_if_success (with_reducible show wpAny _ _ (exec (Stmt.For _ _ _ _ _) _) _ _ _)); (first | (k_unfold; (try dsimp only)) | (k_end; wrow_close) | walk1 | (dsimp only; walk1) | (leave1; walk_say "STEP leave1"; try dsimp only) | fail "no step")))
    exact hret _ _ _ _ _ _ hI ⟨hf.1, fun x hx => ⟨(hf.2 x hx).1, by have := (hf.2 x hx).2; (first | lia | omega)⟩⟩ hD (by k_asm) (by (first | k_asm | (refine' cb_drop ?zN ?zS; (case zN => assumption); (case zS => kcj_all))))
  case turn =>
    rintro i ti m₁ nx h tk own hi' hadr hoff ⟨vs', c, ks, rfl, hI, hf, hdr, hsc⟩ F N
    (simp only [Int.zero_add] at F)
    (try k_sweep)
    (try k_fold)
    have hl4 := hf.1
    have f0 : 0 ≤ Int.fmod (i : Int) 4 := Int.fmod_nonneg_of_pos _ (by decide)
    have f1 : Int.fmod (i : Int) 4 < 4 := Int.fmod_lt_of_pos _ (by decide)
    (repeat' ( (fail_if_success (with_reducible show wpAny _ _ (setItem _ _ _) _ _ _)); (first | (k_unfold; (try dsimp only)) | (k_end; wrow_close) | walk1 | (dsimp only; walk1) | (leave1; walk_say "STEP leave1"; try dsimp only) | fail "no step")))
    (rename Fr _ _ _ _ => kF)
    (rename News _ _ _ _ => kN)
    refine set_headI kF kN ?hne hI f0 (by (first | lia | omega)) (by (first | lia | omega)) ?_
    case hne =>
      intro p hp
      rcases List.mem_append.mp hp with hp | hp
      · exact Nat.ne_of_lt (hD p hp)
      · exact hoff p hp D (List.mem_cons_self ..)
    clear kF kN
    intro h'' F N hI'
    (repeat' ( (fail_if_success (with_reducible show wpAny _ _ (exec (Stmt.While _ _ _ _) _) _ _ _)); (fail_if_success (with_reducible show wpAny _ _ (exec (Stmt.For _ _ _ _ _) _) _ _ _)); (first | (k_unfold; (try dsimp only)) | (k_end; wrow_close) | walk1 | (dsimp only; walk1) | (leave1; walk_say "STEP leave1"; try dsimp only) | fail "no step")))
    (rename Fr _ _ _ _ => kF)
    (rename News _ _ _ _ => kN)
    exact InvEndN.intro kF kN ⟨_, _, _, rfl, hI', fours_set _ hf (by (first | lia | omega)) (by (first | lia | omega)), hdr, hsc⟩ rfl (fun p hp => List.mem_append_left _ hp) (fun p hp => List.mem_cons_of_mem _ (List.mem_append_right _ hp))

end Mine
end

end

section
open PySem PySem.W PyProof.Rows
set_option maxRecDepth 100000
namespace Mine
-- a local whose value a fact tells

local macro_rules | `(tactic| walk_at "execs cons") => `(tactic| (refine wpAny_execs_cons ?_; refine toks_any ?_; intro _; (try dsimp only)))
local macro_rules | `(tactic| walk_at "execs nil") => `(tactic| (refine wpAny_execs_nil ?_; (try dsimp only)))
noncomputable def aheadS (r : Int) : Str := if 0 < Int.fmod (Int.fdiv r 120) 28 then ⟨#[(unseenCp (Int.fmod (Int.fdiv r 120) 28 - 1)).toNat]⟩ else Str.ofString ""
theorem ahead_len (r : Int) : (aheadS r).length ≤ 1 := by
  unfold aheadS; split
  · exact Nat.le_refl 1
  · decide
theorem fmB (a b : Int) (h : 0 < b) : 0 ≤ Int.fmod a b ∧ Int.fmod a b < b := by
  rw [Int.fmod_eq_emod_of_nonneg _ (Int.le_of_lt h)]
  exact ⟨Int.emod_nonneg _ (by (first | lia | omega)), Int.emod_lt_of_pos _ h⟩
noncomputable def bothD : List (PyData × PyData) := [(.str (Str.ofString "ss"), .int 223), (.str (Str.ofString "st"), .int 64262), (.str (Str.ofString "kk"), .int 13261), (.str (Str.ofString "km"), .int 13262), (.str (Str.ofString "ff"), .int 64256), (.str (Str.ofString "fi"), .int 64257)]
noncomputable def bothF (x : Str) : Option Int := if x = Str.ofString "ss" then some 223 else if x = Str.ofString "st" then some 64262 else if x = Str.ofString "kk" then some 13261 else if x = Str.ofString "km" then some 13262 else if x = Str.ofString "ff" then some 64256 else if x = Str.ofString "fi" then some 64257 else none
theorem both_look (x : Str) : Spec.lookup (.str x) bothD = (bothF x).map PyData.int := by
  unfold bothF bothD
  simp only [Spec.lookup, PyProof.V.same_str]
  by_cases h1 : x = Str.ofString "ss"
  · subst h1; rfl
  rw [if_neg h1]
  by_cases h2 : x = Str.ofString "st"
  · subst h2; rfl
  rw [if_neg h2]
  by_cases h3 : x = Str.ofString "kk"
  · subst h3; rfl
  rw [if_neg h3]
  by_cases h4 : x = Str.ofString "km"
  · subst h4; rfl
  rw [if_neg h4]
  by_cases h5 : x = Str.ofString "ff"
  · subst h5; rfl
  rw [if_neg h5]
  by_cases h6 : x = Str.ofString "fi"
  · subst h6; rfl
  rw [if_neg h6]
  simp [Ne.symm h1, Ne.symm h2, Ne.symm h3, Ne.symm h4, Ne.symm h5, Ne.symm h6]
theorem both_none {x : Str} (h : bothF x = none) : Spec.lookup (.str x) bothD = none := by rw [both_look, h]; rfl
theorem both_some {x : Str} {b : Int} (h : bothF x = some b) : Spec.lookup (.str x) bothD = some (.int b) := by rw [both_look, h]; rfl
theorem both_one (c : Nat) : bothF ⟨#[c]⟩ = none := by
  have k : ∀ z : Str, z.length = 2 → ¬ ((⟨#[c]⟩ : Str) = z) := by
    rintro z h rfl
    exact absurd h (by show ¬ ((1 : Nat) = 2); decide)
  unfold bothF
  rw [if_neg (k _ (by decide)), if_neg (k _ (by decide)), if_neg (k _ (by decide)), if_neg (k _ (by decide)), if_neg (k _ (by decide)), if_neg (k _ (by decide))]
theorem both_cp {x : Str} {b : Int} (h : bothF x = some b) : (decide (b < 0) || decide (b > 0x10FFFF)) = false := by
  unfold bothF at h
  repeat' split at h
  all_goals first | (cases h; decide) | cases h
noncomputable def formsL (l : List Nat) (r : Int) : List Str := l.zipIdx.map fun p => ⟨#[(formCp p.1 (Int.fmod (Int.fdiv r 10 + 5 * (0 + (p.2 : Int))) 12)).toNat]⟩
noncomputable def typedS (l : List Nat) (r : Int) : Str :=
  aheadS r ++ (if Int.fmod (Int.fdiv r 5) 2 = 1 then (match bothF ⟨l.toArray⟩ with | some b => ⟨#[b.toNat]⟩ | none => Txt.join (Str.ofString "") (formsL l r)) else Txt.join (Str.ofString "") (formsL l r))
theorem typed_none {l : List Nat} {r : Int} (h : bothF ⟨l.toArray⟩ = none) : typedS l r = aheadS r ++ Txt.join (Str.ofString "") (formsL l r) := by
  unfold typedS; rw [h]; split <;> rfl
theorem typed_some {l : List Nat} {r b : Int} (h1 : Int.fmod (Int.fdiv r 5) 2 = 1) (h : bothF ⟨l.toArray⟩ = some b) : typedS l r = aheadS r ++ ⟨#[b.toNat]⟩ := by
  unfold typedS; rw [h, if_pos h1]
theorem typed_even {l : List Nat} {r : Int} (h1 : ¬ Int.fmod (Int.fdiv r 5) 2 = 1) : typedS l r = aheadS r ++ Txt.join (Str.ofString "") (formsL l r) := by
  unfold typedS; rw [if_neg h1]
theorem form_okE (w : World) (c : Nat) (k : Int) (tk tc : Tok) (z : Str) (hz : z = ⟨#[c]⟩) (hc1 : 97 ≤ c) (hc2 : c ≤ 122) (h0 : 0 ≤ k) (h1 : k < 12) : ClN 2 w 155 [.str z tc, .int k tk] fun v new => ∃ t, new = [] ∧ v = .str ⟨#[(formCp c k).toNat]⟩ t := hz ▸ form_ok w c k tk tc hc1 hc2 h0 h1
section
variable {prog : Program} {w : World} {A : Around} {E : Value → Shared → Prop} {s : Shared} {d : Addr} {D : List (PyData × PyData)}
theorem in_no {x : Str} {t : Tok} {Q : Value → Shared → Prop} (T : StrTab prog w s.heap d D) (hl : Spec.lookup (.str x) D = none) (h : Q (.bool false) { s with toks := s.toks + 1 }) : wpAny (model prog w) A (compareOp .In (.str x t) (.ref d)) Q E s := in_strTab T (by rw [hl]; exact h)
theorem in_yes {x : Str} {t : Tok} {v : PyData} {Q : Value → Shared → Prop} (T : StrTab prog w s.heap d D) (hl : Spec.lookup (.str x) D = some v) (h : Q (.bool true) { s with toks := s.toks + 1 }) : wpAny (model prog w) A (compareOp .In (.str x t) (.ref d)) Q E s := in_strTab T (by rw [hl]; exact h)
end
theorem item_lit {prog : Program} {w : World} {A : Around} {E : Value → Shared → Prop} {s : Shared} {value slice : Expr} {x : Str} {t u : Tok} {i : Int} {c : Nat} {Q : Value → Shared → Prop} (h0 : 0 ≤ i) (h3 : i < 100) (hc : x.cps[i.toNat]? = some c)
    (h : ∀ k, Q (.str ⟨#[c]⟩ s.toks) { s with toks := k })
    (hs : subscripted slice false (.str x t) (.int i u) = operate [.str x t, .int i u] (getItem (.str x t) (.int i u)) := by with_unfolding_all rfl)
    (ht : ∀ r, letTemporaryGo value (.str x t) r = pure () := by intro _; with_unfolding_all rfl) : wpAny (model prog w) A (subscriptTail value slice (.str x t) (.int i u)) Q E s :=
  have h2 : i < x.length := by
    obtain ⟨h, _⟩ := Array.getElem?_eq_some_iff.mp hc
    have : x.length = x.cps.size := rfl
    (first | lia | omega)
  item_str (fitsSsize_of (N := 9223372036854775808) (by (first | lia | omega)) (by (first | lia | omega)) (Int.le_refl _)) (by (first | lia | omega)) h2 (fun _ => by rw [item_meets h0 hc]; exact h _) hs ht
local macro_rules | `(tactic| walk_at "subscriptTail Name Name str int") => `(tactic| (k_here; k_dflt (refine item_lit (by decide) (by decide) (by rfl) ?_; intro _)))
local macro_rules | `(tactic| walk_at "compareOp In str ref") => `(tactic| (k_here; k_dflt (first
  | refine in_no (D := bothD) (TabAt.ofNews (by assumption) (.head _) (by assumption) (by assumption) (by assumption)) (by assumption) ?_
  | refine in_yes (D := bothD) (TabAt.ofNews (by assumption) (.head _) (by assumption) (by assumption) (by assumption)) (by assumption) ?_)))
theorem len_1 {a : Nat} : ¬ (((⟨#[a]⟩ : Str).length : Int) ≥ 2 ^ 63) := by show ¬ (((1 : Nat) : Int) ≥ 2 ^ 63); decide
theorem len_2 {a b : Nat} : ¬ (((⟨#[a, b]⟩ : Str).length : Int) ≥ 2 ^ 63) := by show ¬ (((2 : Nat) : Int) ≥ 2 ^ 63); decide
theorem rs_1 {a : Nat} : Builtin.Range.rangeSize 0 ((⟨#[a]⟩ : Str).length : Int) 1 = ((1 : Nat) : Int) := by
  have e : (⟨#[a]⟩ : Str).length = 1 := rfl
  rw [e]; decide
theorem rs_2 {a b : Nat} : Builtin.Range.rangeSize 0 ((⟨#[a, b]⟩ : Str).length : Int) 1 = ((2 : Nat) : Int) := by
  have e : (⟨#[a, b]⟩ : Str).length = 2 := rfl
  rw [e]; decide
theorem sm_1 {a : Nat} : Builtin.Range.small 0 ((⟨#[a]⟩ : Str).length : Int) 1 = true := by
  have e : (⟨#[a]⟩ : Str).length = 1 := rfl
  rw [e]; decide
theorem sm_2 {a b : Nat} : Builtin.Range.small 0 ((⟨#[a, b]⟩ : Str).length : Int) 1 = true := by
  have e : (⟨#[a, b]⟩ : Str).length = 2 := rfl
  rw [e]; decide
local macro_rules | `(tactic| walk_at "call builtin:len") => `(tactic| (refine P.len_str (by first | exact len_1 | exact len_2) ?_))
local macro_rules | `(tactic| walk_at "binaryOp Mod int int") => `(tactic| (refine mod_known (b := 2) (by with_reducible assumption) (by decide) ?_; intro _ _))
local macro_rules | `(tactic| walk_at "getItem ref str") => `(tactic| (k_here; k_dflt (refine getItem_tab (D := bothD) PyProof.V.same_str (strKind_is _ _ _ _) (TabAt.ofNews (by assumption) (.head _) (by assumption) (by assumption) (by assumption)) (by assumption) ?_; intro _ hv'; dict_open hv')))
local macro_rules | `(tactic| walk_at "call builtin:chr") => `(tactic| (refine P.chr_of_int (hi := by assumption) ?_))
local macro_rules | `(tactic| walk_at "callWith") => `(tactic| (with_reducible refine method1_lc ?_))
local macro_rules | `(tactic| walk_at "CompEnd") => `(tactic| ((rename Fr _ _ _ _ => kF); (rename News _ _ _ _ => kN); refine LCg.CompEnd.intro kF kN _ (fun p hp => hp) (by assumption) True.intro ?_))
local macro_rules | `(tactic| walk_at "CompRest") => `(tactic| (with_unfolding_all first
  | ((first | (with_reducible show LCg.CompRest _ _ _ _ _ _ _ _ _ _ _ _ _ _ _ (nat_lit 0) _ _ _) | (with_reducible show LCg.CompRest _ _ _ _ _ _ _ _ _ _ _ _ _ _ _ 0 _ _ _)); refine LCg.CompRest.zero ?_)
  | (refine LCg.CompRest.succ ?_; intro v' I' oI' C' oC' D' m' h' tk' E' hv' hC' hx' F' N' off' ne'; (obtain ⟨t9', hv9'⟩ := hv'; subst hv9'); (try simp only [LCg.Off3, and_true] at off'))))
local macro_rules | `(tactic| walk_at "call builtin:str.join") => `(tactic| (k_here; (with_reducible rename News _ _ _ _ => kN); k_dflt (refine join_head kN (by first | exact .cons _ _ .nil | exact .cons _ _ (.cons _ _ .nil)) (Nat.le_of_ble_eq_true rfl) ?_; intro _ _)))
theorem ret_strW {v w : Str} {t : Tok} {h : Str → Prop} (e : w = v) : ∃ t', ([] : Led) = [] ∧ Value.str v t = Value.str w t' := ⟨t, rfl, by rw [e]⟩
local macro_rules | `(tactic| walk_at "CompSrc") => `(tactic| (k_dflt (refine LCg.CompSrc.range (n := 1) (by rfl) (by k_asm) (by k_asm) (by assumption) sm_1 rs_1 (by first | size_fits | exact Nat.le_of_ble_eq_true rfl) ?_; intro g')))
set_option maxHeartbeats 8000000 in
theorem typed_ok1 (w : World) (r : Int) (tr tx : Tok) (c1 : Nat) (h0 : 0 ≤ r) (hc1 : 97 ≤ c1) (hd1 : c1 ≤ 122) : ClN 3 w 165 [.str ⟨#[c1]⟩ tx, .int r tr] fun v new => ∃ t, new = [] ∧ v = .str (typedS [c1] r) t := by
  delta ClN
  k_fill
  intro dp un gd cn cs a ccd cl outer A₀ base h₀ L m news s Q E mean mg mb B F X N T hk hd hu hret
  refine wpAny_call ?_
  refine' code_defC (binds := [(Str.ofString "word", .str ⟨#[c1]⟩ tx), (Str.ofString "draw", .int r tr)]) ?k1 ?k2 ?k3 ?k4 ?k5 ?kA ?kF ?kK ?k6 ?k7 ?k8 ?k9 ?kB ?kD ?_ ?c2 ?c3 ?c4
  k_dflt (( (case k1 => k_asm); (case k2 => k_asm); (case k3 => k_asm); (case k4 => k_asm); (case k5 => k_asm); (case kA => exact rfl); (case kF => exact rfl); (case kK => assumption); (case k6 => k_is); (case k7 => k_is); (case k8 => ktr_room); (case k9 => exact BindsTo.of_eq rfl); (case kB => exact rfl); (case kD => decide +kernel); (case c2 => exact rfl); (case c3 => exact rfl); (case c4 => exact rfl); k_whole; intro qg' qL' qh' qtk' qcells' qFG' qF' qN' qY' qB' qX' qT' ql1; (try k_lt ql1); k_cells qY'; (try simp only [List.cons_append, List.nil_append] at qN'); (try dsimp only); (try k_lift qB'); (try k_fold)))
  have hk0 : 0 ≤ Int.fmod (Int.fdiv r 120) 28 := (fmB _ 28 (by decide)).1
  have hk1 : Int.fmod (Int.fdiv r 120) 28 < 28 := (fmB _ 28 (by decide)).2
  (repeat' ( (fail_if_success (with_reducible show wpAny _ _ (exec (Stmt.If _ _ _ _) _) _ _ _)); (first | ((with_reducible show wpAny _ _ (call (Value.ref 148) _) _ _ _); (k_here; (with_reducible show wpAny _ _ (call (Value.ref 148) _) _ _ _); refine' useV (unseen_ok _ _ _ ?q1 ?q2) ?kB ?kF ?kX ?kN ?kT ?kk ?kd ?ku ?_; (case q1 => (first | lia | omega)); (case q2 => (first | lia | omega)); (((case kB => k_asm); (case kF => k_asm); (case kX => k_asm); (case kN => k_asm); (case kT => k_asm); (case kk => first | assumption | exact rfl); (case kd => first | (first | lia | omega) | ((try simp only [depth_deeper]); (first | lia | omega)) | ktr_room); (case ku => first | (first | lia | omega) | ((try simp only [units_deeper]); (first | lia | omega)) | ktr_units))); ((intro qh' qtk' qt' qF' qN')))) | ((with_reducible show wpAny _ _ (call (Value.ref 155) _) _ _ _); (k_here; (with_reducible show wpAny _ _ (call (Value.ref 155) _) _ _ _); refine' useV (form_okE _ _ _ _ _ _ (by first | rfl | decide) ?q1 ?q2 ?q3 ?q4) ?kB ?kF ?kX ?kN ?kT ?kk ?kd ?ku ?_; (case q1 => assumption); (case q2 => assumption); (case q3 => exact (fmB _ 12 (by decide)).1); (case q4 => exact (fmB _ 12 (by decide)).2); (((case kB => k_asm); (case kF => k_asm); (case kX => k_asm); (case kN => k_asm); (case kT => k_asm); (case kk => first | assumption | exact rfl); (case kd => first | (first | lia | omega) | ((try simp only [depth_deeper]); (first | lia | omega)) | ktr_room); (case ku => first | (first | lia | omega) | ((try simp only [units_deeper]); (first | lia | omega)) | ktr_units))); ((intro qh' qtk' qt' qF' qN')))) | (k_unfold; (try dsimp only)) | (k_end; wrow_close) | walk1 | (dsimp only; walk1) | (leave1; walk_say "STEP leave1"; try dsimp only) | fail "no step")))
  (rename Fr _ _ _ _ => kF); (rename News _ _ _ _ => kN); refine cut_set (Str.ofString "ahead") (fun t => .str (aheadS r) t) kF kN ?u1 ?u2
  case u1 =>
    (repeat' ( (fail_if_success (with_reducible show wpAny _ _ (exec (Stmt.While _ _ _ _) _) _ _ _)); (fail_if_success (with_reducible show wpAny _ _ (exec (Stmt.For _ _ _ _ _) _) _ _ _)); (first | ((with_reducible show wpAny _ _ (call (Value.ref 148) _) _ _ _); (k_here; (with_reducible show wpAny _ _ (call (Value.ref 148) _) _ _ _); refine' useV (unseen_ok _ _ _ ?q1 ?q2) ?kB ?kF ?kX ?kN ?kT ?kk ?kd ?ku ?_; (case q1 => (first | lia | omega)); (case q2 => (first | lia | omega)); (((case kB => k_asm); (case kF => k_asm); (case kX => k_asm); (case kN => k_asm); (case kT => k_asm); (case kk => first | assumption | exact rfl); (case kd => first | (first | lia | omega) | ((try simp only [depth_deeper]); (first | lia | omega)) | ktr_room); (case ku => first | (first | lia | omega) | ((try simp only [units_deeper]); (first | lia | omega)) | ktr_units))); ((intro qh' qtk' qt' qF' qN')))) | ((with_reducible show wpAny _ _ (call (Value.ref 155) _) _ _ _); (k_here; (with_reducible show wpAny _ _ (call (Value.ref 155) _) _ _ _); refine' useV (form_okE _ _ _ _ _ _ (by first | rfl | decide) ?q1 ?q2 ?q3 ?q4) ?kB ?kF ?kX ?kN ?kT ?kk ?kd ?ku ?_; (case q1 => assumption); (case q2 => assumption); (case q3 => exact (fmB _ 12 (by decide)).1); (case q4 => exact (fmB _ 12 (by decide)).2); (((case kB => k_asm); (case kF => k_asm); (case kX => k_asm); (case kN => k_asm); (case kT => k_asm); (case kk => first | assumption | exact rfl); (case kd => first | (first | lia | omega) | ((try simp only [depth_deeper]); (first | lia | omega)) | ktr_room); (case ku => first | (first | lia | omega) | ((try simp only [units_deeper]); (first | lia | omega)) | ktr_units))); ((intro qh' qtk' qt' qF' qN')))) | (k_unfold; (try dsimp only)) | (k_end; wrow_close) | walk1 | (dsimp only; walk1) | (leave1; walk_say "STEP leave1"; try dsimp only) | fail "no step")))
    · ((show WDone _ _ _ _ _ _; refine' ⟨_, _, _, rfl, ?zf, ?zn, ?zj⟩; (case zf => k_asm); (case zn => (first | k_asm | (refine' cb_drop ?zN ?zS; (case zN => assumption); (case zS => kcj_all))))))
      case zj => exact set_doneA (by rw [aheadS, if_pos (by assumption)])
    · ((show WDone _ _ _ _ _ _; refine' ⟨_, _, _, rfl, ?zf, ?zn, ?zj⟩; (case zf => k_asm); (case zn => (first | k_asm | (refine' cb_drop ?zN ?zS; (case zN => assumption); (case zS => kcj_all))))))
      case zj => exact set_doneB (by rw [aheadS, if_neg (by assumption)])
  case u2 =>
    intro tA hA kA FA NA
    have hal := ahead_len r
    by_cases hodd : Int.fmod (Int.fdiv r 5) 2 = 1
    · rcases hb : bothF ⟨#[c1]⟩ with _ | b
      · have hl := both_none hb
        have eT : typedS [c1] r = aheadS r ++ Txt.join (Str.ofString "") (formsL [c1] r) := typed_none hb
        (repeat' ( (fail_if_success (with_reducible show wpAny _ _ (exec (Stmt.While _ _ _ _) _) _ _ _)); (fail_if_success (with_reducible show wpAny _ _ (exec (Stmt.For _ _ _ _ _) _) _ _ _)); (first | ((with_reducible show wpAny _ _ (call (Value.ref 148) _) _ _ _); (k_here; (with_reducible show wpAny _ _ (call (Value.ref 148) _) _ _ _); refine' useV (unseen_ok _ _ _ ?q1 ?q2) ?kB ?kF ?kX ?kN ?kT ?kk ?kd ?ku ?_; (case q1 => (first | lia | omega)); (case q2 => (first | lia | omega)); (((case kB => k_asm); (case kF => k_asm); (case kX => k_asm); (case kN => k_asm); (case kT => k_asm); (case kk => first | assumption | exact rfl); (case kd => first | (first | lia | omega) | ((try simp only [depth_deeper]); (first | lia | omega)) | ktr_room); (case ku => first | (first | lia | omega) | ((try simp only [units_deeper]); (first | lia | omega)) | ktr_units))); ((intro qh' qtk' qt' qF' qN')))) | ((with_reducible show wpAny _ _ (call (Value.ref 155) _) _ _ _); (k_here; (with_reducible show wpAny _ _ (call (Value.ref 155) _) _ _ _); refine' useV (form_okE _ _ _ _ _ _ (by first | rfl | decide) ?q1 ?q2 ?q3 ?q4) ?kB ?kF ?kX ?kN ?kT ?kk ?kd ?ku ?_; (case q1 => assumption); (case q2 => assumption); (case q3 => exact (fmB _ 12 (by decide)).1); (case q4 => exact (fmB _ 12 (by decide)).2); (((case kB => k_asm); (case kF => k_asm); (case kX => k_asm); (case kN => k_asm); (case kT => k_asm); (case kk => first | assumption | exact rfl); (case kd => first | (first | lia | omega) | ((try simp only [depth_deeper]); (first | lia | omega)) | ktr_room); (case ku => first | (first | lia | omega) | ((try simp only [units_deeper]); (first | lia | omega)) | ktr_units))); ((intro qh' qtk' qt' qF' qN')))) | (k_unfold; (try dsimp only)) | (k_end; wrow_close) | walk1 | (dsimp only; walk1) | (leave1; walk_say "STEP leave1"; try dsimp only) | fail "no step")))
        refine hret _ [] _ _ (ret_strW (h := fun _ => True) eT) (by k_asm) (by show News _ _ _ news; (first | k_asm | (refine' cb_drop ?zN ?zS; (case zN => assumption); (case zS => kcj_all))))
      · rw [both_one] at hb; cases hb
    · replace hodd : Int.fmod (Int.fdiv r 5) 2 = 0 := by have := fmB (Int.fdiv r 5) 2 (by decide); (first | lia | omega)
      have eT : typedS [c1] r = aheadS r ++ Txt.join (Str.ofString "") (formsL [c1] r) := typed_even (by (first | lia | omega))
      (repeat' ( (fail_if_success (with_reducible show wpAny _ _ (exec (Stmt.While _ _ _ _) _) _ _ _)); (fail_if_success (with_reducible show wpAny _ _ (exec (Stmt.For _ _ _ _ _) _) _ _ _)); (first | ((with_reducible show wpAny _ _ (call (Value.ref 148) _) _ _ _); (k_here; (with_reducible show wpAny _ _ (call (Value.ref 148) _) _ _ _); refine' useV (unseen_ok _ _ _ ?q1 ?q2) ?kB ?kF ?kX ?kN ?kT ?kk ?kd ?ku ?_; (case q1 => (first | lia | omega)); (case q2 => (first | lia | omega)); (((case kB => k_asm); (case kF => k_asm); (case kX => k_asm); (case kN => k_asm); (case kT => k_asm); (case kk => first | assumption | exact rfl); (case kd => first | (first | lia | omega) | ((try simp only [depth_deeper]); (first | lia | omega)) | ktr_room); (case ku => first | (first | lia | omega) | ((try simp only [units_deeper]); (first | lia | omega)) | ktr_units))); ((intro qh' qtk' qt' qF' qN')))) | ((with_reducible show wpAny _ _ (call (Value.ref 155) _) _ _ _); (k_here; (with_reducible show wpAny _ _ (call (Value.ref 155) _) _ _ _); refine' useV (form_okE _ _ _ _ _ _ (by first | rfl | decide) ?q1 ?q2 ?q3 ?q4) ?kB ?kF ?kX ?kN ?kT ?kk ?kd ?ku ?_; (case q1 => assumption); (case q2 => assumption); (case q3 => exact (fmB _ 12 (by decide)).1); (case q4 => exact (fmB _ 12 (by decide)).2); (((case kB => k_asm); (case kF => k_asm); (case kX => k_asm); (case kN => k_asm); (case kT => k_asm); (case kk => first | assumption | exact rfl); (case kd => first | (first | lia | omega) | ((try simp only [depth_deeper]); (first | lia | omega)) | ktr_room); (case ku => first | (first | lia | omega) | ((try simp only [units_deeper]); (first | lia | omega)) | ktr_units))); ((intro qh' qtk' qt' qF' qN')))) | (k_unfold; (try dsimp only)) | (k_end; wrow_close) | walk1 | (dsimp only; walk1) | (leave1; walk_say "STEP leave1"; try dsimp only) | fail "no step")))
      refine hret _ [] _ _ (ret_strW (h := fun _ => True) eT) (by k_asm) (by show News _ _ _ news; (first | k_asm | (refine' cb_drop ?zN ?zS; (case zN => assumption); (case zS => kcj_all))))
local macro_rules | `(tactic| walk_at "CompSrc") => `(tactic| (k_dflt (refine LCg.CompSrc.range (n := 2) (by rfl) (by k_asm) (by k_asm) (by assumption) sm_2 rs_2 (by first | size_fits | exact Nat.le_of_ble_eq_true rfl) ?_; intro g')))
set_option maxHeartbeats 8000000 in
theorem typed_ok2 (w : World) (r : Int) (tr tx : Tok) (c1 c2 : Nat) (h0 : 0 ≤ r) (hc1 : 97 ≤ c1) (hd1 : c1 ≤ 122) (hc2 : 97 ≤ c2) (hd2 : c2 ≤ 122) : ClN 3 w 165 [.str ⟨#[c1, c2]⟩ tx, .int r tr] fun v new => ∃ t, new = [] ∧ v = .str (typedS [c1, c2] r) t := by
  delta ClN
  k_fill
  intro dp un gd cn cs a ccd cl outer A₀ base h₀ L m news s Q E mean mg mb B F X N T hk hd hu hret
  refine wpAny_call ?_
  refine' code_defC (binds := [(Str.ofString "word", .str ⟨#[c1, c2]⟩ tx), (Str.ofString "draw", .int r tr)]) ?k1 ?k2 ?k3 ?k4 ?k5 ?kA ?kF ?kK ?k6 ?k7 ?k8 ?k9 ?kB ?kD ?_ ?c2 ?c3 ?c4
  k_dflt (( (case k1 => k_asm); (case k2 => k_asm); (case k3 => k_asm); (case k4 => k_asm); (case k5 => k_asm); (case kA => exact rfl); (case kF => exact rfl); (case kK => assumption); (case k6 => k_is); (case k7 => k_is); (case k8 => ktr_room); (case k9 => exact BindsTo.of_eq rfl); (case kB => exact rfl); (case kD => decide +kernel); (case c2 => exact rfl); (case c3 => exact rfl); (case c4 => exact rfl); k_whole; intro qg' qL' qh' qtk' qcells' qFG' qF' qN' qY' qB' qX' qT' ql1; (try k_lt ql1); k_cells qY'; (try simp only [List.cons_append, List.nil_append] at qN'); (try dsimp only); (try k_lift qB'); (try k_fold)))
  have hk0 : 0 ≤ Int.fmod (Int.fdiv r 120) 28 := (fmB _ 28 (by decide)).1
  have hk1 : Int.fmod (Int.fdiv r 120) 28 < 28 := (fmB _ 28 (by decide)).2
  (repeat' ( (fail_if_success (with_reducible show wpAny _ _ (exec (Stmt.If _ _ _ _) _) _ _ _)); (first | ((with_reducible show wpAny _ _ (call (Value.ref 148) _) _ _ _); (k_here; (with_reducible show wpAny _ _ (call (Value.ref 148) _) _ _ _); refine' useV (unseen_ok _ _ _ ?q1 ?q2) ?kB ?kF ?kX ?kN ?kT ?kk ?kd ?ku ?_; (case q1 => (first | lia | omega)); (case q2 => (first | lia | omega)); (((case kB => k_asm); (case kF => k_asm); (case kX => k_asm); (case kN => k_asm); (case kT => k_asm); (case kk => first | assumption | exact rfl); (case kd => first | (first | lia | omega) | ((try simp only [depth_deeper]); (first | lia | omega)) | ktr_room); (case ku => first | (first | lia | omega) | ((try simp only [units_deeper]); (first | lia | omega)) | ktr_units))); ((intro qh' qtk' qt' qF' qN')))) | ((with_reducible show wpAny _ _ (call (Value.ref 155) _) _ _ _); (k_here; (with_reducible show wpAny _ _ (call (Value.ref 155) _) _ _ _); refine' useV (form_okE _ _ _ _ _ _ (by first | rfl | decide) ?q1 ?q2 ?q3 ?q4) ?kB ?kF ?kX ?kN ?kT ?kk ?kd ?ku ?_; (case q1 => assumption); (case q2 => assumption); (case q3 => exact (fmB _ 12 (by decide)).1); (case q4 => exact (fmB _ 12 (by decide)).2); (((case kB => k_asm); (case kF => k_asm); (case kX => k_asm); (case kN => k_asm); (case kT => k_asm); (case kk => first | assumption | exact rfl); (case kd => first | (first | lia | omega) | ((try simp only [depth_deeper]); (first | lia | omega)) | ktr_room); (case ku => first | (first | lia | omega) | ((try simp only [units_deeper]); (first | lia | omega)) | ktr_units))); ((intro qh' qtk' qt' qF' qN')))) | (k_unfold; (try dsimp only)) | (k_end; wrow_close) | walk1 | (dsimp only; walk1) | (leave1; walk_say "STEP leave1"; try dsimp only) | fail "no step")))
  (rename Fr _ _ _ _ => kF); (rename News _ _ _ _ => kN); refine cut_set (Str.ofString "ahead") (fun t => .str (aheadS r) t) kF kN ?u1 ?u2
  case u1 =>
    (repeat' ( (fail_if_success (with_reducible show wpAny _ _ (exec (Stmt.While _ _ _ _) _) _ _ _)); (fail_if_success (with_reducible show wpAny _ _ (exec (Stmt.For _ _ _ _ _) _) _ _ _)); (first | ((with_reducible show wpAny _ _ (call (Value.ref 148) _) _ _ _); (k_here; (with_reducible show wpAny _ _ (call (Value.ref 148) _) _ _ _); refine' useV (unseen_ok _ _ _ ?q1 ?q2) ?kB ?kF ?kX ?kN ?kT ?kk ?kd ?ku ?_; (case q1 => (first | lia | omega)); (case q2 => (first | lia | omega)); (((case kB => k_asm); (case kF => k_asm); (case kX => k_asm); (case kN => k_asm); (case kT => k_asm); (case kk => first | assumption | exact rfl); (case kd => first | (first | lia | omega) | ((try simp only [depth_deeper]); (first | lia | omega)) | ktr_room); (case ku => first | (first | lia | omega) | ((try simp only [units_deeper]); (first | lia | omega)) | ktr_units))); ((intro qh' qtk' qt' qF' qN')))) | ((with_reducible show wpAny _ _ (call (Value.ref 155) _) _ _ _); (k_here; (with_reducible show wpAny _ _ (call (Value.ref 155) _) _ _ _); refine' useV (form_okE _ _ _ _ _ _ (by first | rfl | decide) ?q1 ?q2 ?q3 ?q4) ?kB ?kF ?kX ?kN ?kT ?kk ?kd ?ku ?_; (case q1 => assumption); (case q2 => assumption); (case q3 => exact (fmB _ 12 (by decide)).1); (case q4 => exact (fmB _ 12 (by decide)).2); (((case kB => k_asm); (case kF => k_asm); (case kX => k_asm); (case kN => k_asm); (case kT => k_asm); (case kk => first | assumption | exact rfl); (case kd => first | (first | lia | omega) | ((try simp only [depth_deeper]); (first | lia | omega)) | ktr_room); (case ku => first | (first | lia | omega) | ((try simp only [units_deeper]); (first | lia | omega)) | ktr_units))); ((intro qh' qtk' qt' qF' qN')))) | (k_unfold; (try dsimp only)) | (k_end; wrow_close) | walk1 | (dsimp only; walk1) | (leave1; walk_say "STEP leave1"; try dsimp only) | fail "no step")))
    · ((show WDone _ _ _ _ _ _; refine' ⟨_, _, _, rfl, ?zf, ?zn, ?zj⟩; (case zf => k_asm); (case zn => (first | k_asm | (refine' cb_drop ?zN ?zS; (case zN => assumption); (case zS => kcj_all))))))
      case zj => exact set_doneA (by rw [aheadS, if_pos (by assumption)])
    · ((show WDone _ _ _ _ _ _; refine' ⟨_, _, _, rfl, ?zf, ?zn, ?zj⟩; (case zf => k_asm); (case zn => (first | k_asm | (refine' cb_drop ?zN ?zS; (case zN => assumption); (case zS => kcj_all))))))
      case zj => exact set_doneB (by rw [aheadS, if_neg (by assumption)])
  case u2 =>
    intro tA hA kA FA NA
    have hal := ahead_len r
    by_cases hodd : Int.fmod (Int.fdiv r 5) 2 = 1
    · rcases hb : bothF ⟨#[c1, c2]⟩ with _ | b
      · have hl := both_none hb
        have eT : typedS [c1, c2] r = aheadS r ++ Txt.join (Str.ofString "") (formsL [c1, c2] r) := typed_none hb
        (repeat' ( (fail_if_success (with_reducible show wpAny _ _ (exec (Stmt.While _ _ _ _) _) _ _ _)); (fail_if_success (with_reducible show wpAny _ _ (exec (Stmt.For _ _ _ _ _) _) _ _ _)); (first | ((with_reducible show wpAny _ _ (call (Value.ref 148) _) _ _ _); (k_here; (with_reducible show wpAny _ _ (call (Value.ref 148) _) _ _ _); refine' useV (unseen_ok _ _ _ ?q1 ?q2) ?kB ?kF ?kX ?kN ?kT ?kk ?kd ?ku ?_; (case q1 => (first | lia | omega)); (case q2 => (first | lia | omega)); (((case kB => k_asm); (case kF => k_asm); (case kX => k_asm); (case kN => k_asm); (case kT => k_asm); (case kk => first | assumption | exact rfl); (case kd => first | (first | lia | omega) | ((try simp only [depth_deeper]); (first | lia | omega)) | ktr_room); (case ku => first | (first | lia | omega) | ((try simp only [units_deeper]); (first | lia | omega)) | ktr_units))); ((intro qh' qtk' qt' qF' qN')))) | ((with_reducible show wpAny _ _ (call (Value.ref 155) _) _ _ _); (k_here; (with_reducible show wpAny _ _ (call (Value.ref 155) _) _ _ _); refine' useV (form_okE _ _ _ _ _ _ (by first | rfl | decide) ?q1 ?q2 ?q3 ?q4) ?kB ?kF ?kX ?kN ?kT ?kk ?kd ?ku ?_; (case q1 => assumption); (case q2 => assumption); (case q3 => exact (fmB _ 12 (by decide)).1); (case q4 => exact (fmB _ 12 (by decide)).2); (((case kB => k_asm); (case kF => k_asm); (case kX => k_asm); (case kN => k_asm); (case kT => k_asm); (case kk => first | assumption | exact rfl); (case kd => first | (first | lia | omega) | ((try simp only [depth_deeper]); (first | lia | omega)) | ktr_room); (case ku => first | (first | lia | omega) | ((try simp only [units_deeper]); (first | lia | omega)) | ktr_units))); ((intro qh' qtk' qt' qF' qN')))) | (k_unfold; (try dsimp only)) | (k_end; wrow_close) | walk1 | (dsimp only; walk1) | (leave1; walk_say "STEP leave1"; try dsimp only) | fail "no step")))
        refine hret _ [] _ _ (ret_strW (h := fun _ => True) eT) (by k_asm) (by show News _ _ _ news; (first | k_asm | (refine' cb_drop ?zN ?zS; (case zN => assumption); (case zS => kcj_all))))
      · have hl := both_some hb
        have hcb := both_cp hb
        have eT : typedS [c1, c2] r = aheadS r ++ ⟨#[b.toNat]⟩ := typed_some hodd hb
        (repeat' ( (fail_if_success (with_reducible show wpAny _ _ (exec (Stmt.While _ _ _ _) _) _ _ _)); (fail_if_success (with_reducible show wpAny _ _ (exec (Stmt.For _ _ _ _ _) _) _ _ _)); (first | ((with_reducible show wpAny _ _ (call (Value.ref 148) _) _ _ _); (k_here; (with_reducible show wpAny _ _ (call (Value.ref 148) _) _ _ _); refine' useV (unseen_ok _ _ _ ?q1 ?q2) ?kB ?kF ?kX ?kN ?kT ?kk ?kd ?ku ?_; (case q1 => (first | lia | omega)); (case q2 => (first | lia | omega)); (((case kB => k_asm); (case kF => k_asm); (case kX => k_asm); (case kN => k_asm); (case kT => k_asm); (case kk => first | assumption | exact rfl); (case kd => first | (first | lia | omega) | ((try simp only [depth_deeper]); (first | lia | omega)) | ktr_room); (case ku => first | (first | lia | omega) | ((try simp only [units_deeper]); (first | lia | omega)) | ktr_units))); ((intro qh' qtk' qt' qF' qN')))) | ((with_reducible show wpAny _ _ (call (Value.ref 155) _) _ _ _); (k_here; (with_reducible show wpAny _ _ (call (Value.ref 155) _) _ _ _); refine' useV (form_okE _ _ _ _ _ _ (by first | rfl | decide) ?q1 ?q2 ?q3 ?q4) ?kB ?kF ?kX ?kN ?kT ?kk ?kd ?ku ?_; (case q1 => assumption); (case q2 => assumption); (case q3 => exact (fmB _ 12 (by decide)).1); (case q4 => exact (fmB _ 12 (by decide)).2); (((case kB => k_asm); (case kF => k_asm); (case kX => k_asm); (case kN => k_asm); (case kT => k_asm); (case kk => first | assumption | exact rfl); (case kd => first | (first | lia | omega) | ((try simp only [depth_deeper]); (first | lia | omega)) | ktr_room); (case ku => first | (first | lia | omega) | ((try simp only [units_deeper]); (first | lia | omega)) | ktr_units))); ((intro qh' qtk' qt' qF' qN')))) | (k_unfold; (try dsimp only)) | (k_end; wrow_close) | walk1 | (dsimp only; walk1) | (leave1; walk_say "STEP leave1"; try dsimp only) | fail "no step")))
        refine hret _ [] _ _ (ret_strW (h := fun _ => True) eT) (by k_asm) (by show News _ _ _ news; (first | k_asm | (refine' cb_drop ?zN ?zS; (case zN => assumption); (case zS => kcj_all))))
    · replace hodd : Int.fmod (Int.fdiv r 5) 2 = 0 := by have := fmB (Int.fdiv r 5) 2 (by decide); (first | lia | omega)
      have eT : typedS [c1, c2] r = aheadS r ++ Txt.join (Str.ofString "") (formsL [c1, c2] r) := typed_even (by (first | lia | omega))
      (repeat' ( (fail_if_success (with_reducible show wpAny _ _ (exec (Stmt.While _ _ _ _) _) _ _ _)); (fail_if_success (with_reducible show wpAny _ _ (exec (Stmt.For _ _ _ _ _) _) _ _ _)); (first | ((with_reducible show wpAny _ _ (call (Value.ref 148) _) _ _ _); (k_here; (with_reducible show wpAny _ _ (call (Value.ref 148) _) _ _ _); refine' useV (unseen_ok _ _ _ ?q1 ?q2) ?kB ?kF ?kX ?kN ?kT ?kk ?kd ?ku ?_; (case q1 => (first | lia | omega)); (case q2 => (first | lia | omega)); (((case kB => k_asm); (case kF => k_asm); (case kX => k_asm); (case kN => k_asm); (case kT => k_asm); (case kk => first | assumption | exact rfl); (case kd => first | (first | lia | omega) | ((try simp only [depth_deeper]); (first | lia | omega)) | ktr_room); (case ku => first | (first | lia | omega) | ((try simp only [units_deeper]); (first | lia | omega)) | ktr_units))); ((intro qh' qtk' qt' qF' qN')))) | ((with_reducible show wpAny _ _ (call (Value.ref 155) _) _ _ _); (k_here; (with_reducible show wpAny _ _ (call (Value.ref 155) _) _ _ _); refine' useV (form_okE _ _ _ _ _ _ (by first | rfl | decide) ?q1 ?q2 ?q3 ?q4) ?kB ?kF ?kX ?kN ?kT ?kk ?kd ?ku ?_; (case q1 => assumption); (case q2 => assumption); (case q3 => exact (fmB _ 12 (by decide)).1); (case q4 => exact (fmB _ 12 (by decide)).2); (((case kB => k_asm); (case kF => k_asm); (case kX => k_asm); (case kN => k_asm); (case kT => k_asm); (case kk => first | assumption | exact rfl); (case kd => first | (first | lia | omega) | ((try simp only [depth_deeper]); (first | lia | omega)) | ktr_room); (case ku => first | (first | lia | omega) | ((try simp only [units_deeper]); (first | lia | omega)) | ktr_units))); ((intro qh' qtk' qt' qF' qN')))) | (k_unfold; (try dsimp only)) | (k_end; wrow_close) | walk1 | (dsimp only; walk1) | (leave1; walk_say "STEP leave1"; try dsimp only) | fail "no step")))
      refine hret _ [] _ _ (ret_strW (h := fun _ => True) eT) (by k_asm) (by show News _ _ _ news; (first | k_asm | (refine' cb_drop ?zN ?zS; (case zN => assumption); (case zS => kcj_all))))

end Mine
end

section
open PySem PySem.W PyProof.Rows
set_option maxRecDepth 100000
namespace Mine
-- a local whose value a fact tells

local macro_rules | `(tactic| walk_at "CompEnd") => `(tactic| ((rename Fr _ _ _ _ => kF); (rename News _ _ _ _ => kN); refine LCg.CompEnd.intro kF kN _ (fun p hp => hp) (by assumption) True.intro ?_))
local macro_rules | `(tactic| walk_at "CompRest") => `(tactic| (with_unfolding_all first
  | ((first | (with_reducible show LCg.CompRest _ _ _ _ _ _ _ _ _ _ _ _ _ _ _ (nat_lit 0) _ _ _) | (with_reducible show LCg.CompRest _ _ _ _ _ _ _ _ _ _ _ _ _ _ _ 0 _ _ _)); refine LCg.CompRest.zero ?_)
  | (refine LCg.CompRest.succ ?_; intro v' I' oI' C' oC' D' m' h' tk' E' hv' hC' hx' F' N' off' ne'; (obtain ⟨c9', t9', hc9', e9'⟩ := hv'); subst e9'; (cases hc9'); (try simp only [LCg.Off3, and_true] at off'))))
local macro_rules | `(tactic| walk_at "eval ListComp") => `(tactic| ((with_reducible apply ListComp_S); (case hclos => first | (with_unfolding_all rfl)); (case hcell => first | decide); (case hkind => first | rfl); (case hnames => first | decide); (case hx => first | decide | (with_unfolding_all rfl)); (case F₀ => first | k_asm); (case hs => first | (intro _; rfl) | (intro _; with_unfolding_all rfl))))
local macro_rules | `(tactic| walk_at "Exists") => `(tactic| (refine ⟨_, _, _, rfl, rfl, by k_asm, by k_asm, by decide, ?_⟩; intro s2' hs2'; obtain ⟨g', hg'⟩ := hs2'; subst hg'; lcg_lit))
local macro_rules | `(tactic| walk_at "callWith") => `(tactic| (with_reducible refine method1_lc ?_))
local macro_rules | `(tactic| walk_at "subscriptTail") => `(tactic| (k_here; (with_reducible rename News _ _ _ _ => kN); refine item_head kN (by decide) (by decide) (by exact rfl) ?_))
local macro_rules | `(tactic| walk_at "binaryOp Mod int int") => `(tactic| ((with_reducible rename Int.fmod _ _ = _ => hM); refine mod_known hM (by decide) ?_; intro _ _))
noncomputable def wordL (k : Int) (u d : Str) : List Str := if k = 0 then [u] else if k = 1 then [u, u] else if k = 2 then [d] else if k = 3 then [d, d] else [d, u]
noncomputable def meantS (r : Int) (u d : Str) : Str := Txt.join (Str.ofString "") (wordL (Int.fmod r 5) u d)
theorem ret_strWXFn7 {v w : Str} {t : Tok} {h : Str → Prop} (e : w = v) : ∃ t', ([] : Led) = [] ∧ Value.str v t = Value.str w t' := ⟨t, rfl, by rw [e]⟩
set_option maxHeartbeats 8000000 in
theorem meant_ok (w : World) (r : Int) (tr tu td : Tok) (u d : Str) (h0 : 0 ≤ r) (hu' : u.length = 1) (hd' : d.length = 1) : ClN 3 w 160 [.int r tr, .str u tu, .str d td] fun v new => ∃ t, new = [] ∧ v = .str (meantS r u d) t := by
  delta ClN
  k_fill
  intro dp un gd cn cs a ccd cl outer A₀ base h₀ L m news s Q E mean mg mb B F X N T hk hd hu hret
  refine wpAny_call ?_
  refine' code_defC (binds := [(Str.ofString "draw", .int r tr), (Str.ofString "up", .str u tu), (Str.ofString "down", .str d td)]) ?k1 ?k2 ?k3 ?k4 ?k5 ?kA ?kF ?kK ?k6 ?k7 ?k8 ?k9 ?kB ?kD ?_ ?c2 ?c3 ?c4
  k_dflt (( (case k1 => k_asm); (case k2 => k_asm); (case k3 => k_asm); (case k4 => k_asm); (case k5 => k_asm); (case kA => exact rfl); (case kF => exact rfl); (case kK => assumption); (case k6 => k_is); (case k7 => k_is); (case k8 => ktr_room); (case k9 => exact BindsTo.of_eq rfl); (case kB => exact rfl); (case kD => decide +kernel); (case c2 => exact rfl); (case c3 => exact rfl); (case c4 => exact rfl); k_whole; intro qg' qL' qh' qtk' qcells' qFG' qF' qN' qY' qB' qX' qT' ql1; (try k_lt ql1); k_cells qY'; (try simp only [List.cons_append, List.nil_append] at qN'); (try dsimp only); (try k_lift qB'); (try k_fold)))
  have h5 : Int.fmod r 5 = 0 ∨ Int.fmod r 5 = 1 ∨ Int.fmod r 5 = 2 ∨ Int.fmod r 5 = 3 ∨ Int.fmod r 5 = 4 := by
    rw [Int.fmod_eq_emod_of_nonneg _ (by decide : (0:Int) ≤ 5)]; (first | lia | omega)
  have key : ∀ c, Int.fmod r 5 = c → meantS r u d = Txt.join (Str.ofString "") (wordL c u d) := fun c e => congrArg (fun k => Txt.join (Str.ofString "") (wordL k u d)) e
  rcases h5 with h5 | h5 | h5 | h5 | h5 <;> (have e5 := key _ h5; (repeat' ( (fail_if_success (with_reducible show wpAny _ _ (exec (Stmt.While _ _ _ _) _) _ _ _)); (fail_if_success (with_reducible show wpAny _ _ (exec (Stmt.For _ _ _ _ _) _) _ _ _)); (first | (k_unfold; (try dsimp only)) | (k_end; wrow_close) | walk1 | (dsimp only; walk1) | (leave1; walk_say "STEP leave1"; try dsimp only) | fail "no step"))); refine hret _ [] _ _ (ret_strWXFn7 (h := fun _ => True) e5) (by k_asm) (by show News _ _ _ news; (first | k_asm | (refine' cb_drop ?zN ?zS; (case zN => assumption); (case zS => kcj_all)))))

end Mine
end

section
open PySem PySem.W PyProof.Rows
set_option maxRecDepth 100000
namespace Mine
noncomputable def wordN (k : Int) (U D : Nat) : List Nat := if k = 0 then [U] else if k = 1 then [U, U] else if k = 2 then [D] else if k = 3 then [D, D] else [D, U]
theorem tl_ext {x y : Str} (h : tl x = tl y) : x = y := by
  obtain ⟨a⟩ := x
  obtain ⟨b⟩ := y
  simp only [tl] at h
  exact congrArg Str.mk (Array.toList_inj.mp h)
theorem tl_mk (l : List Nat) : tl ⟨l.toArray⟩ = l := by simp [tl]
theorem meant_word (r : Int) (U D : Nat) : meantS r ⟨#[U]⟩ ⟨#[D]⟩ = ⟨(wordN (Int.fmod r 5) U D).toArray⟩ := by
  refine tl_ext ?_
  unfold meantS
  rw [tl_join, tl_mk]
  unfold wordL wordN
  repeat' split
  all_goals rfl
theorem meant_okW (w : World) (r : Int) (tr tu td : Tok) (U D : Nat) (h0 : 0 ≤ r) : ClN 3 w 160 [.int r tr, .str ⟨#[U]⟩ tu, .str ⟨#[D]⟩ td] fun v new => ∃ t, new = [] ∧ v = .str ⟨(wordN (Int.fmod r 5) U D).toArray⟩ t := by
  rw [← meant_word]
  exact meant_ok w r tr tu td ⟨#[U]⟩ ⟨#[D]⟩ h0 rfl rfl
structure WordOk (l : List Nat) : Prop where
  len : l.length = 1 ∨ l.length = 2
  low : ∀ c ∈ l, 97 ≤ c ∧ c ≤ 122
theorem wordN_ok (k : Int) {U D : Nat} (hU : 97 ≤ U ∧ U ≤ 122) (hD : 97 ≤ D ∧ D ≤ 122) : WordOk (wordN k U D) := by
  unfold wordN
  repeat' split
  all_goals exact ⟨by simp, by simp; (first | lia | omega)⟩
theorem typed_okW (w : World) (r : Int) (tr tx : Tok) (l : List Nat) (hl : WordOk l) (h0 : 0 ≤ r) : ClN 3 w 165 [.str ⟨l.toArray⟩ tx, .int r tr] fun v new => ∃ t, new = [] ∧ v = .str (typedS l r) t := by
  rcases l with _ | ⟨a, _ | ⟨b, _ | ⟨c, l⟩⟩⟩
  · have := hl.len; simp at this
  · have h := hl.low a (by simp)
    exact typed_ok1 w r tr tx a h0 h.1 h.2
  · have h := hl.low a (by simp)
    have g := hl.low b (by simp)
    exact typed_ok2 w r tr tx a b h0 h.1 h.2 g.1 g.2
  · have := hl.len; simp at this
theorem four_ints {us : List Value} {ks : List Int} (h : IntsAre us ks) (hl : ks.length = 4) : ∃ a b c d t u v w, us = [.int a t, .int b u, .int c v, .int d w] ∧ ks = [a, b, c, d] := by
  cases h with
  | nil => simp at hl
  | cons a t h => cases h with
    | nil => simp at hl
    | cons b u h => cases h with
      | nil => simp at hl
      | cons c v h => cases h with
        | nil => simp at hl
        | cons d x h => cases h with
          | nil => exact ⟨a, b, c, d, t, u, v, x, rfl, rfl⟩
          | cons e y h => simp at hl
/-- the six pairs of letters -/
noncomputable def pairs6 : List (Nat × Nat) := [(115, 116), (116, 115), (107, 109), (109, 107), (102, 105), (105, 102)]
noncomputable def famL (k : Int) : List Nat := if k = 0 then [115, 116] else if k = 1 then [107, 109] else [102, 105]
theorem fam_pick (k i : Int) (hi : i = 0 ∨ i = 1) : ∃ U D, (⟨(famL k).toArray⟩ : Str).cps[i.toNat]? = some U ∧ (⟨(famL k).toArray⟩ : Str).cps[(1 - i).toNat]? = some D ∧ (U, D) ∈ pairs6 := by
  unfold famL
  rcases hi with rfl | rfl
  all_goals (split; exact ⟨_, _, rfl, rfl, by decide⟩; split; exact ⟨_, _, rfl, rfl, by decide⟩; exact ⟨_, _, rfl, rfl, by decide⟩)
theorem pair6_ok {U D : Nat} (h : (U, D) ∈ pairs6) : (97 ≤ U ∧ U ≤ 122) ∧ (97 ≤ D ∧ D ≤ 122) := by
  have : ∀ p ∈ pairs6, (97 ≤ p.1 ∧ p.1 ≤ 122) ∧ (97 ≤ p.2 ∧ p.2 ≤ 122) := by decide
  exact this _ h
end Mine
end

section
open PySem PySem.W PyProof.Rows
set_option maxRecDepth 100000
namespace Mine
section
variable {M : Model} {A : Around} {E : Value → Shared → Prop} {s : Shared} {env : Env}
theorem toks_ge {α : Type} {t : Sem α} {Q : α → Shared → Prop} {h : Heap} {g : Array GenState} {d : Drawn} {o : OsState} {X : Nat} (H : ∀ k : Nat, X ≤ k → wpAny M A t Q E ⟨h, g, d, k, o⟩) : wpAny M A t Q E ⟨h, g, d, X, o⟩ := H X (Nat.le_refl _)
end
section
variable {prog : Program} {w : World} {A : Around} {E : Value → Shared → Prop} {s : Shared} {h₀ : Heap} {L D : Addr} {news rest : Led} {n : Nat} {k : Int} {u : Tok} {v : Value} {l : List Value} {value slice : Expr} {Q : Value → Shared → Prop}
theorem item_mem (N : News h₀ L s.heap news) (hm : (D, listOf (List.toArray l) n) ∈ news) (h0 : 0 ≤ k) (hhi : k < 2 ^ 63) (hx : l[k.toNat]? = some v) (h : Q v s)
    (hs : subscripted slice false (.ref D) (.int k u) = operate [.ref D, .int k u] (getItem (.ref D) (.int k u)) := by with_unfolding_all rfl) : wpAny (model prog w) A (subscriptTail value slice (.ref D) (.int k u)) Q E s :=
  have hL := PySem.IsL.isList (n := n) (N _ hm).1
  tail_any hL.typeIs slot_list_getitem.lookup (wpAny_getItem_list hL h0 hhi (by simpa using hx) h) hs
theorem item_fam {t1 t2 t3 : Tok} (N : News h₀ L s.heap ((D, listOf #[.str (Str.ofString "st") t1, .str (Str.ofString "km") t2, .str (Str.ofString "fi") t3] n) :: rest)) (h0 : 0 ≤ k) (hk : k < 3) (h : ∀ t, Q (.str ⟨(famL k).toArray⟩ t) s)
    (hs : subscripted slice false (.ref D) (.int k u) = operate [.ref D, .int k u] (getItem (.ref D) (.int k u)) := by with_unfolding_all rfl) : wpAny (model prog w) A (subscriptTail value slice (.ref D) (.int k u)) Q E s := by
  have e : k = 0 ∨ k = 1 ∨ k = 2 := by (first | lia | omega)
  rcases e with rfl | rfl | rfl
  · exact item_mem (l := [.str (Str.ofString "st") t1, .str (Str.ofString "km") t2, .str (Str.ofString "fi") t3]) N (List.mem_cons_self ..) (by decide) (by decide) rfl (h t1) hs
  · exact item_mem (l := [.str (Str.ofString "st") t1, .str (Str.ofString "km") t2, .str (Str.ofString "fi") t3]) N (List.mem_cons_self ..) (by decide) (by decide) rfl (h t2) hs
  · exact item_mem (l := [.str (Str.ofString "st") t1, .str (Str.ofString "km") t2, .str (Str.ofString "fi") t3]) N (List.mem_cons_self ..) (by decide) (by decide) rfl (h t3) hs
theorem item_litT {x : Str} {t u : Tok} {i : Int} {c : Nat} {Q : Value → Shared → Prop} (h0 : 0 ≤ i) (h3 : i < 100) (hc : x.cps[i.toNat]? = some c)
    (h : Q (.str ⟨#[c]⟩ s.toks) { s with toks := s.toks + 1 })
    (hs : subscripted slice false (.str x t) (.int i u) = operate [.str x t, .int i u] (getItem (.str x t) (.int i u)) := by with_unfolding_all rfl)
    (ht : ∀ r, letTemporaryGo value (.str x t) r = pure () := by intro _; with_unfolding_all rfl) : wpAny (model prog w) A (subscriptTail value slice (.str x t) (.int i u)) Q E s :=
  have h2 : i < x.length := by
    obtain ⟨h, _⟩ := Array.getElem?_eq_some_iff.mp hc
    have : x.length = x.cps.size := rfl
    (first | lia | omega)
  item_str (fitsSsize_of (N := 9223372036854775808) (by (first | lia | omega)) (by (first | lia | omega)) (Int.le_refl _)) (by (first | lia | omega)) h2 (fun _ => by rw [item_meets h0 hc]; exact h) hs ht
end
end Mine
end

section
open PySem PySem.W PyProof.Rows PyProof.Rows.LCg
set_option maxRecDepth 100000
namespace Mine
theorem turn_in (elt t0 i0 t1 i1 c1 : Expr) (scope : Scope) (pos : Pos) (it acc : Value) (env : Env) :
    compTurn (.ListComp elt [⟨t0, i0, [], 0⟩, ⟨t1, i1, [c1], 0⟩] scope pos) 1 it acc env = (do
      standAt i1.pos
      match ← pyNext it with
      | none => pure (.done .next)
      | some v =>
        letOwnedTupleGo t1 it v
        assign t1 env v
        let mut ok := true
        for c in [c1] do
          if ok then ok ← isTrue c env (eval c env)
        if ok then
          (do let _ ← call (.builtin "list.append") [acc, ← eval elt env])
        again (.compLoop (.ListComp elt [⟨t0, i0, [], 0⟩, ⟨t1, i1, [c1], 0⟩] scope pos) 1 it acc env)) := by rfl
theorem turn_out (elt t0 i0 t1 i1 c1 : Expr) (scope : Scope) (pos : Pos) (it acc : Value) (env : Env) :
    compTurn (.ListComp elt [⟨t0, i0, [], 0⟩, ⟨t1, i1, [c1], 0⟩] scope pos) 0 it acc env = (do
      standAt i0.pos
      match ← pyNext it with
      | none => pure (.done .next)
      | some v =>
        letOwnedTupleGo t0 it v
        assign t0 env v
        let x ← eval i1 env
        standAt i1.pos
        let x ← foldedSetIterable i1 env x
        let _ ← runOwn (.compStart (.ListComp elt [⟨t0, i0, [], 0⟩, ⟨t1, i1, [c1], 0⟩] scope pos) 1 (← holding [x] (pyIter x)) acc env) env
        again (.compLoop (.ListComp elt [⟨t0, i0, [], 0⟩, ⟨t1, i1, [c1], 0⟩] scope pos) 0 it acc env)) := by rfl
section
variable {prog : Program} {w : World} {A : Around} {E : Value → Shared → Prop} {R : Result → Shared → Prop} {s : Shared}
/-- the inner loop of two clauses, a test behind -/
theorem code_in {elt t0 i0 t1 i1 c1 : Expr} {scope : Scope} {pos : Pos} {it acc : Value} {env : Env} (I : Nat → Shared → Prop)
    (turn : ∀ n s, I n s → wpAny (model prog w) A (pyNext it) (fun r s₁ => match r with
      | none => R (.ok .next) s₁
      | some v => wpAny (model prog w) A (assign t1 env v) (fun _ s₂ =>
          wpAny (model prog w) A (isTrue c1 env (eval c1 env)) (fun ok s₃ =>
            if ok = true then wpAny (model prog w) A (eval elt env) (fun x s₄ =>
              wpAny (model prog w) A (call (.builtin "list.append") [acc, x]) (fun _ s₅ => ∃ m, m < n ∧ I m s₅) (notedBy (model prog w) A env fun e s' => R (.error e) s') s₄) (notedBy (model prog w) A env fun e s' => R (.error e) s') s₃
            else ∃ m, m < n ∧ I m s₃) (notedBy (model prog w) A env fun e s' => R (.error e) s') s₂) (notedBy (model prog w) A env fun e s' => R (.error e) s') s₁) (notedBy (model prog w) A env fun e s' => R (.error e) s') s)
    (n : Nat) (h : I n s) (ht : ∀ v, letOwnedTupleGo t1 it v = pure () := by intro _; rfl) :
    codeAny (model prog w) A (.compLoop (.ListComp elt [⟨t0, i0, [], 0⟩, ⟨t1, i1, [c1], 0⟩] scope pos) 1 it acc env) R s := by
  refine codeAny_loop rfl I (fun n s hI => ?_) n h
  show wpAny _ A ((compTurn (.ListComp elt [⟨t0, i0, [], 0⟩, ⟨t1, i1, [c1], 0⟩] scope pos) 1 it acc env).onRaise (fun x => do noteFrame x env; theTreesLotGoes x)) _ _ s
  refine wpAny_noted ?_
  rw [turn_in]
  refine wpAny_bind (wpAny_standAt (wpAny_bind (wpAny_mono (turn n s hI) (fun r s₁ h₁ => ?_) fun _ _ h' => h')))
  cases r with
  | none => exact wpAny_pure h₁
  | some v =>
    refine wpAny_bind (wpAny_of_eq (ht v) ?_)
    refine wpAny_bind (wpAny_mono h₁ (fun _ s₂ h₂ => wpAny_bind (wpAny_mono (wpAny_tests_one h₂) (fun ok s₃ h₃ => ?_) fun _ _ h' => h')) fun _ _ h' => h')
    cases ok with
    | false => exact wpAny_pure ⟨rfl, h₃⟩
    | true =>
      exact wpAny_bind (wpAny_bind (wpAny_mono h₃ (fun x s₄ h₄ => wpAny_bind (wpAny_mono h₄ (fun _ s₅ h₅ => wpAny_pure (wpAny_pure ⟨rfl, h₅⟩)) fun _ _ h' => h')) fun _ _ h' => h'))
/-- the outer loop of two clauses: the inner one is run for each value -/
theorem code_out {elt t0 i0 t1 i1 c1 : Expr} {scope : Scope} {pos : Pos} {it acc : Value} {env : Env} (I : Nat → Shared → Prop)
    (turn : ∀ n s, I n s → wpAny (model prog w) A (pyNext it) (fun r s₁ => match r with
      | none => R (.ok .next) s₁
      | some v => wpAny (model prog w) A (assign t0 env v) (fun _ s₂ => wpAny (model prog w) A (eval i1 env) (fun x s₃ => wpAny (model prog w) A (pyIter x) (fun it' s₄ =>
          codeAny (model prog w) A (.compStart (.ListComp elt [⟨t0, i0, [], 0⟩, ⟨t1, i1, [c1], 0⟩] scope pos) 1 it' acc env) (fun r s₅ => match r with
            | .ok _ => ∃ m, m < n ∧ I m s₅
            | .error e => cameBackBy (model prog w) A env (notedBy (model prog w) A env fun e s' => R (.error e) s') e s₅) s₄) (notedBy (model prog w) A env fun e s' => R (.error e) s') s₃) (notedBy (model prog w) A env fun e s' => R (.error e) s') s₂) (notedBy (model prog w) A env fun e s' => R (.error e) s') s₁) (notedBy (model prog w) A env fun e s' => R (.error e) s') s)
    (n : Nat) (h : I n s) (ht : ∀ v, letOwnedTupleGo t0 it v = pure () := by intro _; rfl) (hs : ∀ x, foldedSetIterable i1 env x = pure x := by intro _; rfl) :
    codeAny (model prog w) A (.compLoop (.ListComp elt [⟨t0, i0, [], 0⟩, ⟨t1, i1, [c1], 0⟩] scope pos) 0 it acc env) R s := by
  refine codeAny_loop rfl I (fun n s hI => ?_) n h
  show wpAny _ A ((compTurn (.ListComp elt [⟨t0, i0, [], 0⟩, ⟨t1, i1, [c1], 0⟩] scope pos) 0 it acc env).onRaise (fun x => do noteFrame x env; theTreesLotGoes x)) _ _ s
  refine wpAny_noted ?_
  rw [turn_out]
  refine wpAny_bind (wpAny_standAt (wpAny_bind (wpAny_mono (turn n s hI) (fun r s₁ h₁ => ?_) fun _ _ h' => h')))
  cases r with
  | none => exact wpAny_pure h₁
  | some v =>
    refine wpAny_bind (wpAny_of_eq (ht v) ?_)
    refine wpAny_bind (wpAny_mono h₁ (fun _ s₂ h₂ => wpAny_bind (wpAny_mono h₂ (fun x s₃ h₃ => ?_) fun _ _ h' => h')) fun _ _ h' => h')
    refine wpAny_bind (wpAny_standAt (wpAny_bind (wpAny_of_eq (hs x) ?_)))
    refine wpAny_bind (wpAny_holding (wpAny_mono h₃ (fun it' s₄ h₄ => ?_) fun _ _ h' => h'))
    refine wpAny_bind (wpAny_runOwn (A := A) ?_)
    refine codeAny_mono h₄ (fun r s₅ h₅ => ?_)
    cases r with
    | ok f => exact wpAny_pure ⟨rfl, h₅⟩
    | error e => exact h₅
theorem start_in {elt t0 i0 t1 i1 c1 : Expr} {scope : Scope} {pos : Pos} {it acc : Value} {env : Env}
    (h0 : codeAny (model prog w) A (.compLoop (.ListComp elt [⟨t0, i0, [], 0⟩, ⟨t1, i1, [c1], 0⟩] scope pos) 1 it acc env) R s)
    (h : wpAny (model prog w) A (pyIter it) (fun it' s' => codeAny (model prog w) A (.compLoop (.ListComp elt [⟨t0, i0, [], 0⟩, ⟨t1, i1, [c1], 0⟩] scope pos) 1 it' acc env) R s')
      (notedBy (model prog w) A env fun x s' => R (.error x) s') s) :
    codeAny (model prog w) A (.compStart (.ListComp elt [⟨t0, i0, [], 0⟩, ⟨t1, i1, [c1], 0⟩] scope pos) 1 it acc env) R s := by
  refine codeAny_of_tree ?_
  show wpAny _ _ ((compStart (.ListComp elt [⟨t0, i0, [], 0⟩, ⟨t1, i1, [c1], 0⟩] scope pos) 1 it acc env).onRaise (fun x => do noteFrame x env; standAt theWindowsPlace)) _ _ s
  refine wpAny_notedAt ?_
  unfold compStart
  show wpAny _ _ (ask >>= _) _ _ s
  refine wpAny_bind (wpAny_askSetting (wpAny_ite ?_))
  split
  · first
      | exact wpAny_bind (wpAny_pure (wpAny_pure (And.intro rfl h0)))
      | exact wpAny_pure (And.intro rfl h0)
  · first
      | exact wpAny_bind (wpAny_rule (wpAny_bind (wpAny_standAt (wpAny_bind (wpAny_mono h (fun it' s' h' => wpAny_pure (And.intro rfl h')) fun _ _ x => x)))))
      | (refine wpAny_bind (wpAny_rule ?_); show wpAny _ _ (standAt i1.pos >>= _) _ _ s; exact wpAny_bind (wpAny_standAt (wpAny_bind (wpAny_mono h (fun it' s' h' => wpAny_pure (And.intro rfl h')) fun _ _ x => x))))
end
end Mine
end

section
open PySem PySem.W PyProof.Rows PyProof.Rows.LCg
set_option maxRecDepth 100000
namespace Mine
theorem off1_of {D : Addr} : ∀ {l : Led}, (∀ p ∈ l, @Ne Nat p.1 D) → Off1 D l
  | [], _ => trivial
  | _ :: _, h => ⟨h _ List.mem_cons_self, off1_of fun p hp => h p (List.mem_cons_of_mem _ hp)⟩
theorem flt_snoc {l : List Nat} {i c : Nat} (P : Nat → Bool) (h : l[i]? = some c) : ((l.take (i + 1)).filter P).length = ((l.take i).filter P).length + if P c = true then 1 else 0 := by
  rw [List.take_add_one, h]
  by_cases e : P c = true <;> simp [List.filter_append, e]
section
variable {prog : Program} {w : World} {A : Around} {E : Value → Shared → Prop} {R : Result → Shared → Prop} {s : Shared} {h₀ : Heap} {L : Addr} {m : FMap} {env : Env}
/-- the inner loop over a text -/
theorem inner_T {elt t0 i0 i1 c1 : Expr} {x1 : Str} {p1 : Pos} {scope : Scope} {pos : Pos} {cl : List (Str × Addr)} {I C D : Addr} {cls : String} {y : Str} {t : Tok} {news : Led} {ys₀ : List Value} {n₀ : Nat} (P : Nat → Bool)
    (W : Walks prog w A I [I] [I] y.cps.size (SignAt y) (fun i h => h.IsStrIter I cls y t i))
    (hkind : scope.kind = .function) (hx : scope.names.lookup x1 = some .local) (hst : s.heap.IsStrIter I cls y t 0) (hn0 : n₀ ≤ s.toks)
    (F : Fr h₀ L s.heap m) (hC : ∃ m', s.heap.Ns C m') (N : News h₀ L s.heap ((D, lst ys₀) :: news))
    (eIC : @Ne Nat I C) (eID : @Ne Nat I D) (eDC : @Ne Nat D C) (eLI : @Ne Nat L I) (eLC : @Ne Nat L C) (eLD : @Ne Nat L D) (nI : h₀.get? I = none) (nC : h₀.get? C = none) (nD : h₀.get? D = none)
    (off : ∀ p ∈ news, (@Ne Nat p.1 I) ∧ (@Ne Nat p.1 C) ∧ (@Ne Nat p.1 D)) (hlen : ys₀.length + y.cps.size ≤ 10000)
    (test : ∀ c oI oC m₂ h ta tk ys (E' : Value → Shared → Prop), n₀ ≤ tk → NsObj oC m₂ → m₂ x1 = some (.str ⟨#[c]⟩ ta) → Fr h₀ L h m → News h₀ L h ((I, oI) :: (C, oC) :: (D, lst ys) :: news) →
      wpAny (model prog w) A (isTrue c1 (compEnvC scope cl C env) (eval c1 (compEnvC scope cl C env))) (fun ok => ElT h₀ L m { s with heap := h, toks := tk } ((I, oI) :: (C, oC) :: (D, lst ys) :: news) (fun _ => ok = P c) .none) E' { s with heap := h, toks := tk })
    (elem : ∀ c oI oC m₂ h ta tk ys (E' : Value → Shared → Prop), n₀ ≤ tk → NsObj oC m₂ → m₂ x1 = some (.str ⟨#[c]⟩ ta) → Fr h₀ L h m → News h₀ L h ((I, oI) :: (C, oC) :: (D, lst ys) :: news) →
      wpAny (model prog w) A (eval elt (compEnvC scope cl C env)) (ElT h₀ L m { s with heap := h, toks := tk } ((I, oI) :: (C, oC) :: (D, lst ys) :: news) (fun _ => True)) E' { s with heap := h, toks := tk })
    (fin : ∀ h tk ys, n₀ ≤ tk → ys.length = ys₀.length + (y.cps.toList.filter P).length → Fr h₀ L h m → News h₀ L h ((D, lst ys) :: news) → (∃ m', h.Ns C m') → R (.ok .next) { s with heap := h, toks := tk }) :
    codeAny (model prog w) A (.compLoop (.ListComp elt [⟨t0, i0, [], 0⟩, ⟨.Name x1 p1, i1, [c1], 0⟩] scope pos) 1 (.ref I) (.ref D) (compEnvC scope cl C env)) R s := by
  refine code_in (fun j s' => ∃ h' tk i ys, s' = { s with heap := h', toks := tk } ∧ n₀ ≤ tk ∧ i ≤ y.cps.size ∧ j = y.cps.size + 1 - i ∧ ys.length = ys₀.length + ((y.cps.toList.take i).filter P).length ∧ h'.IsStrIter I cls y t i ∧ Fr h₀ L h' m ∧ (∃ m', h'.Ns C m') ∧ News h₀ L h' ((D, lst ys) :: news))
    ?_ (y.cps.size + 1) ⟨s.heap, _, 0, ys₀, rfl, hn0, Nat.zero_le _, rfl, by simp, hst, F, hC, N⟩
  rintro j s' ⟨h', tk, i, ys, rfl, htk, hi, rfl, hyl, hst', F', hn', N'⟩
  rcases Nat.lt_or_ge i y.cps.size with hlt | hge
  · refine any_toks (W.item i _ _ _ hlt hst' fun v h₂ tk₂ hv hst₂ hk₂ hle => ?_)
    obtain ⟨c, ta, hc, rfl⟩ : ∃ c ta, y.cps[i]? = some c ∧ v = .str ⟨#[c]⟩ ta := by
      obtain ⟨c, ta, a, b⟩ := hv
      first | exact ⟨c, ta, a, b⟩ | exact ⟨_, _, b, a⟩
    have kI : ∀ b o, b ≠ I → h'.get? b = some o → h₂.get? b = some o := fun b o hb e => hk₂ b o (by simpa using hb) e
    obtain ⟨m', hn'⟩ := hn'
    refine wpAny_assign_Name (wpAny_storeName_local (lookup_relabel_local hx) (hn'.at' fun o e => kI _ o (Ne.symm eIC) e) (fun h₃ hn₃ hs₃ => ?_) (by simp [compEnvC, relabel, hkind]))
    have F₃ : Fr h₀ L h₃ m := (fr_but F' (fun b o hb e => kI b o (by simpa using hb) e) eLI nI).change hs₃ (Ne.symm eLC) nC
    have hst₃ : h₃.IsStrIter I cls y t (i + 1) := by
      obtain ⟨o, e, r⟩ := hst₂
      exact ⟨o, hs₃.extBut _ _ eIC e, r⟩
    obtain ⟨oI, heI⟩ : ∃ o, h₃.get? I = some o := by obtain ⟨o, e, _⟩ := hst₃; exact ⟨o, e⟩
    obtain ⟨oC, heC, hoC⟩ := ns_obj hn₃
    have N₃ : News h₀ L h₃ ((I, oI) :: (C, oC) :: (D, lst ys) :: news) := fun p hp => by
      rcases List.mem_cons.mp hp with rfl | hp
      · exact ⟨heI, Ne.symm eLI, nI⟩
      · rcases List.mem_cons.mp hp with rfl | hp
        · exact ⟨heC, Ne.symm eLC, nC⟩
        · have z := N' p hp
          have hp2 : p.1 ≠ I ∧ p.1 ≠ C := by
            rcases List.mem_cons.mp hp with rfl | hp
            · exact ⟨Ne.symm eID, eDC⟩
            · exact ⟨(off p hp).1, (off p hp).2.1⟩
          exact ⟨hs₃.extBut _ _ hp2.2 (kI _ _ hp2.1 z.1), z.2⟩
    have hct : y.cps.toList[i]? = some c := by simpa using hc
    have hsn := flt_snoc P hct
    have lim : ((y.cps.toList.take i).filter P).length ≤ y.cps.size := Nat.le_trans (List.length_filter_le ..) (by simp; (first | lia | omega))
    have back : ∀ (s₃ : Shared) (ok : Bool) (ys₂ : List Value), tk₂ ≤ s₃.toks → ok = P c → ys₂.length = ys.length + (if ok = true then 1 else 0) → (∃ h₄ tk₄, s₃ = { s with heap := h₄, toks := tk₄ } ∧ Fr h₀ L h₄ m ∧ News h₀ L h₄ ((I, oI) :: (C, oC) :: (D, lst ys₂) :: news)) →
        ∃ mm, mm < y.cps.size + 1 - i ∧ ∃ h' tk i ys, s₃ = { s with heap := h', toks := tk } ∧ n₀ ≤ tk ∧ i ≤ y.cps.size ∧ mm = y.cps.size + 1 - i ∧ ys.length = ys₀.length + ((y.cps.toList.take i).filter P).length ∧ h'.IsStrIter I cls y t i ∧ Fr h₀ L h' m ∧ (∃ m', h'.Ns C m') ∧ News h₀ L h' ((D, lst ys) :: news) := by
      rintro s₃ ok ys₂ hle₃ rfl hy₂ ⟨h₄, tk₄, rfl, F₄, N₄⟩
      refine ⟨y.cps.size + 1 - (i + 1), by (first | lia | omega), h₄, tk₄, i + 1, ys₂, rfl, Nat.le_trans htk (Nat.le_trans hle hle₃), hlt, rfl, by rw [hy₂, hyl, hsn]; (first | lia | omega), ?_, F₄, ⟨_, hoC.ns (N₄ (C, oC) (List.mem_cons_of_mem _ List.mem_cons_self)).1⟩, fun p hp => N₄ p (List.mem_cons_of_mem _ (List.mem_cons_of_mem _ hp))⟩
      obtain ⟨o, e, r⟩ := hst₃
      rw [heI] at e
      cases e
      exact ⟨oI, (N₄ (I, oI) List.mem_cons_self).1, r⟩
    refine wpAny_mono (any_toks (wpAny_mono (test c oI oC _ h₃ ta _ ys _ ?_ hoC (by simp) F₃ N₃) (fun ok s₄ h₄ (hle₄ : _ ≤ s₄.toks) => (⟨h₄, hle₄⟩ : _ ∧ _)) fun _ _ e => e)) (fun ok s₄ h₄ => ?_) fun _ _ e => e
    · exact Nat.le_trans htk (Nat.le_trans hle (Nat.le_add_right ..))
    obtain ⟨⟨h₄, tk₄, rfl, F₄, N₄, hok⟩, hle₄⟩ := h₄
    split
    · rename_i hok1
      refine wpAny_mono (any_toks (wpAny_mono (elem c oI oC _ h₄ ta tk₄ ys _ ?_ hoC (by simp) F₄ N₄) (fun x s₄ h₄ (hle₄ : _ ≤ s₄.toks) => (⟨h₄, hle₄⟩ : _ ∧ _)) fun _ _ e => e)) (fun x s₅ h₅ => ?_) fun _ _ e => e
      · exact Nat.le_trans htk (Nat.le_trans hle (Nat.le_trans (Nat.le_add_right ..) hle₄))
      obtain ⟨⟨h₅, tk₅, rfl, F₅, N₅, _⟩, hle₅⟩ := h₅
      have zD := (N₅ (D, lst ys) (List.mem_cons_of_mem _ (List.mem_cons_of_mem _ List.mem_cons_self))).1
      refine append_at (hsz := by show ys.toArray.size ≤ sizeLine; rw [List.size_toArray, hyl, sizeLine_eq]; (first | lia | omega)) zD fun h₆ hs₆ hD₆ => ?_
      refine back _ ok (ys ++ [x]) (Nat.le_trans (Nat.le_trans (Nat.le_add_right ..) hle₄) hle₅) hok (by rw [hok1]; simp) ⟨h₆, tk₅, rfl, F₅.change hs₆ (Ne.symm eLD) nD, fun p hp => ?_⟩
      rcases List.mem_cons.mp hp with rfl | hp
      · exact ⟨hs₆.extBut _ _ eID (N₅ (I, oI) List.mem_cons_self).1, Ne.symm eLI, nI⟩
      · rcases List.mem_cons.mp hp with rfl | hp
        · exact ⟨hs₆.extBut _ _ (Ne.symm eDC) (N₅ (C, oC) (List.mem_cons_of_mem _ List.mem_cons_self)).1, Ne.symm eLC, nC⟩
        · rcases List.mem_cons.mp hp with rfl | hp
          · exact ⟨hD₆.trans (congrArg some (lst_snoc ys x)), Ne.symm eLD, nD⟩
          · have z := N₅ p (List.mem_cons_of_mem _ (List.mem_cons_of_mem _ (List.mem_cons_of_mem _ hp)))
            exact ⟨hs₆.extBut _ _ (off p hp).2.2 z.1, z.2⟩
    · rename_i hok1
      refine back _ ok ys (Nat.le_trans (Nat.le_add_right ..) hle₄) hok ?_ ⟨h₄, tk₄, rfl, F₄, N₄⟩
      cases ok
      · simp
      · exact absurd rfl hok1
  · obtain rfl : i = y.cps.size := Nat.le_antisymm hi hge
    refine any_toks (W.done _ _ _ hst' fun h₂ tk₂ hk₂ hle => ?_)
    have kI : ∀ b o, b ∉ [I] → h'.get? b = some o → h₂.get? b = some o := hk₂
    have e : y.cps.toList.take y.cps.size = y.cps.toList := List.take_of_length_le (by simp)
    rw [e] at hyl
    obtain ⟨m', hn'⟩ := hn'
    refine fin h₂ tk₂ ys (Nat.le_trans htk hle) hyl (fr_but F' kI eLI nI) (news_but N' kI fun p hp => ?_) ⟨_, hn'.at' fun o e => kI _ o (by simpa using Ne.symm eIC) e⟩
    rcases List.mem_cons.mp hp with rfl | hp
    · exact Ne.symm eID
    · exact (off p hp).1
/-- a list made by two clauses, the inner one over a text and under a test: only its length is told -/
noncomputable def cnt2 (P : Nat → Bool) (vs : List Value) : Nat := (vs.map fun v => match v with | .str y _ => (y.cps.toList.filter P).length | _ => 0).sum
theorem cnt2_snoc {vs : List Value} {i : Nat} {y : Str} {t : Tok} (P : Nat → Bool) (h : vs[i]? = some (.str y t)) : cnt2 P (vs.take (i + 1)) = cnt2 P (vs.take i) + (y.cps.toList.filter P).length := by
  unfold cnt2
  rw [List.take_add_one, h]
  simp
theorem cnt2_le (P : Nat → Bool) : ∀ (vs : List Value), (∀ v ∈ vs, ∃ y t, v = Value.str y t ∧ y.cps.size ≤ 10) → cnt2 P vs ≤ 10 * vs.length
  | [], _ => Nat.le_refl _
  | v :: vs, h => by
    obtain ⟨y, t, rfl, hy⟩ := h v (by simp)
    have r := cnt2_le P vs fun v hv => h v (by simp [hv])
    have l : (y.cps.toList.filter P).length ≤ y.cps.size := Nat.le_trans (List.length_filter_le ..) (by simp)
    unfold cnt2 at r ⊢
    simp only [List.map_cons, List.sum_cons, List.length_cons]
    (first | lia | omega)
theorem ListComp2_T {elt iter c1 : Expr} {x0 x1 : Str} {p0 p1 q0 : Pos} {scope : Scope} {cl : List (Str × Addr)} {pos : Pos} {Q : Value → Shared → Prop} (P : Nat → Bool) (_F₀ : Fr h₀ L s.heap m)
    (hclos : closureFor scope env = pure cl) (hcell : ∀ y ∈ scope.names, y.2 ≠ .cell) (hkind : scope.kind = .function)
    (hnames : ∀ y ∈ scope.names, y.2 = .local → scope.names.lookup y.1 = some .local) (hx0 : scope.names.lookup x0 = some .local) (hx1 : scope.names.lookup x1 = some .local)
    (h : wpAny (model prog w) A (eval iter env) (fun xv s₁ => ∃ (ax : Addr) (vs : List Value) (k : Nat) (news : Led), xv = .ref ax ∧ A.handled = none ∧ Fr h₀ L s₁.heap m ∧ News h₀ L s₁.heap news ∧ (ax, listOf (List.toArray vs) k) ∈ news ∧ vs.length ≤ 100 ∧
      (∀ v ∈ vs, ∃ y t, v = Value.str y t ∧ y.cps.size ≤ 10) ∧
      (∀ v oC C m₂ h tk led (E' : Value → Shared → Prop), s₁.toks ≤ tk → NsObj oC m₂ → m₂ x0 = some v → Fr h₀ L h m → News h₀ L h led → (C, oC) ∈ led → (∀ p ∈ news, p ∈ led) →
        wpAny (model prog w) A (eval (.Name x0 q0) (compEnvC scope cl C env)) (ElT h₀ L m { s₁ with heap := h, toks := tk } led (fun z => z = v)) E' { s₁ with heap := h, toks := tk }) ∧
      (∀ c oC C m₂ h ta tk led (E' : Value → Shared → Prop), s₁.toks ≤ tk → NsObj oC m₂ → m₂ x1 = some (.str ⟨#[c]⟩ ta) → Fr h₀ L h m → News h₀ L h led → (C, oC) ∈ led → (∀ p ∈ news, p ∈ led) →
        wpAny (model prog w) A (isTrue c1 (compEnvC scope cl C env) (eval c1 (compEnvC scope cl C env))) (fun ok => ElT h₀ L m { s₁ with heap := h, toks := tk } led (fun _ => ok = P c) .none) E' { s₁ with heap := h, toks := tk }) ∧
      (∀ c oC C m₂ h ta tk led (E' : Value → Shared → Prop), s₁.toks ≤ tk → NsObj oC m₂ → m₂ x1 = some (.str ⟨#[c]⟩ ta) → Fr h₀ L h m → News h₀ L h led → (C, oC) ∈ led → (∀ p ∈ news, p ∈ led) →
        wpAny (model prog w) A (eval elt (compEnvC scope cl C env)) (ElT h₀ L m { s₁ with heap := h, toks := tk } led (fun _ => True)) E' { s₁ with heap := h, toks := tk }) ∧
      (∀ D h tk ys, s₁.toks ≤ tk → ys.length = cnt2 P vs → Fr h₀ L h m → News h₀ L h ((D, lst ys) :: news) → Off1 D news → Q (.ref D) { s₁ with heap := h, toks := tk })) E s)
    (hs : ∀ x, foldedSetIterable iter env x = pure x := by intro _; rfl) :
    wpAny (model prog w) A (eval (.ListComp elt [⟨.Name x0 p0, iter, [], 0⟩, ⟨.Name x1 p1, .Name x0 q0, [c1], 0⟩] scope pos) env) Q E s := by
  rw [eval_ListComp]
  refine wpAny_comprehension_free (use := none) rfl hs hclos hkind hnames (wpAny_mono h (fun xv s₁ h₁ => ?_) fun _ _ e => e)
  obtain ⟨ax, vs, k, news, rfl, hh, F, N, hm, hlen, hvs, word, test, elem, fin⟩ := h₁
  have hl : s₁.heap.IsList ax vs.toArray := PySem.IsL.isList (n := k) (N _ hm).1
  refine wpAny_pyIter_list hl ?_
  have up : ∀ b o, s₁.heap.get? b = some o → (s₁.heap.push { cls := .type "list_iterator", data := .fields #[.ref ax, .int 0 0] }).get? b = some o := fun b o e => Heap.get?_push_of_some _ e
  obtain ⟨I, hIv⟩ : ∃ I, s₁.heap.objs.size = I := ⟨_, rfl⟩
  obtain ⟨hp, hhp⟩ : ∃ hp, s₁.heap.push { cls := .type "list_iterator", data := .fields #[.ref ax, .int 0 0] } = hp := ⟨_, rfl⟩
  have hI : hp.IsListIter I ax 0 := by rw [← hhp, ← hIv]; exact ⟨_, Heap.get?_push_size _ rfl, rfl, rfl⟩
  have hIlt : @LT.lt Nat _ I hp.objs.size := by rw [← hhp, ← hIv, Heap.size_push]; exact Nat.lt_succ_self _
  have hax : @LT.lt Nat _ ax I := by rw [← hIv]; exact Heap.lt_size (N _ hm).1
  have hIL : @Ne Nat L I := by rw [← hIv]; exact Nat.ne_of_lt F.ns.lt
  have hI₀ : h₀.get? I = none := by rw [← hIv]; exact next_is_new F
  have off : ∀ p ∈ news, @Ne Nat p.1 I := fun p hp => by rw [← hIv]; exact Nat.ne_of_lt (Heap.lt_size (N p hp).1)
  have F0 : Fr h₀ L hp m := by rw [← hhp]; exact F.keeps up
  have N0 : News h₀ L hp news := by rw [← hhp]; exact N.grown up
  rw [hhp, hIv]
  clear F N hl up
  have W := Walks.list (prog := prog) (w := w) hh I ax (Nat.ne_of_lt hax) vs.toArray
  refine wpAny_newObj_type (wpAny_newFunctionEnv hcell (by intro y hy; simp at hy) (fun h₁ hns₁ hsb₁ => ?_) hkind)
  dsimp only at hns₁ hsb₁ ⊢
  obtain ⟨D, hDv⟩ : ∃ D, hp.objs.size = D := ⟨_, rfl⟩
  obtain ⟨C, hCv⟩ : ∃ C, (hp.push { cls := Value.type "list", dict := none, data := Data.seq #[] }).objs.size = C := ⟨_, rfl⟩
  have hC : C = D + 1 := by rw [← hCv, Heap.size_push, hDv]
  have old : ∀ b o, hp.get? b = some o → h₁.get? b = some o := fun b o e => by
    have h1 : @LT.lt Nat _ b hp.objs.size := Heap.lt_size e
    exact hsb₁.extBut b o (by rw [hCv]; exact Nat.ne_of_lt (by (first | lia | omega))) (Heap.get?_push_of_some _ (Heap.get?_push_of_some _ e))
  have hacc : h₁.get? D = some (lst []) := hsb₁.extBut _ _ (by rw [hCv]; exact Nat.ne_of_lt (by (first | lia | omega))) (Heap.get?_push_of_some _ (hDv ▸ Heap.get?_push_size _ rfl))
  rw [hCv] at hns₁
  have ltDC : @LT.lt Nat _ D C := hC ▸ Nat.lt_succ_self D
  have ltID : @LT.lt Nat _ I D := hDv ▸ hIlt
  have ltLD : @LT.lt Nat _ L D := hDv ▸ F0.ns.lt
  have eDC : @Ne Nat D C := Nat.ne_of_lt ltDC
  have eID : @Ne Nat I D := Nat.ne_of_lt ltID
  have eIC : @Ne Nat I C := Nat.ne_of_lt (Nat.lt_trans ltID ltDC)
  have eLD : @Ne Nat L D := Nat.ne_of_lt ltLD
  have eLC : @Ne Nat L C := Nat.ne_of_lt (Nat.lt_trans ltLD ltDC)
  have hneD : ∀ p ∈ news, @Ne Nat p.1 D := fun p hp => Nat.ne_of_lt (hDv ▸ Heap.lt_size (N0 p hp).1)
  have hneC : ∀ p ∈ news, @Ne Nat p.1 C := fun p hp => Nat.ne_of_lt (Nat.lt_trans (hDv ▸ Heap.lt_size (N0 p hp).1 : @LT.lt Nat _ p.1 D) ltDC)
  have none₀ : ∀ a, @LE.le Nat _ D a → h₀.get? a = none := fun a ha => by
    cases e : h₀.get? a with
    | none => rfl
    | some o => exact absurd (hDv ▸ Heap.lt_size (F0.keep a o e) : @LT.lt Nat _ a D) (Nat.not_lt.mpr ha)
  have nD : h₀.get? D = none := none₀ D (Nat.le_refl _)
  have nC : h₀.get? C = none := none₀ C (Nat.le_of_lt ltDC)
  rw [hCv, hDv]
  have loop : ∀ s₃ : Shared, s₃ = { s₁ with heap := h₁, toks := s₁.toks + ([] : List (Str × Value)).length } →
      codeAny (model prog w) A (.compLoop (.ListComp elt [⟨.Name x0 p0, iter, [], 0⟩, ⟨.Name x1 p1, .Name x0 q0, [c1], 0⟩] scope pos) 0 (.ref I) (.ref D) (compEnvC scope cl C env)) (compPost (model prog w) A E none Q (.ref D) C) s₃ := by
    rintro s₃ rfl
    refine code_out (fun j s' => ∃ h' tk i ys, s' = { s₁ with heap := h', toks := tk } ∧ s₁.toks ≤ tk ∧ i ≤ vs.length ∧ j = vs.length + 1 - i ∧ ys.length = cnt2 P (vs.take i) ∧ h'.IsListIter I ax i ∧ Fr h₀ L h' m ∧ (∃ m', h'.Ns C m') ∧ News h₀ L h' ((D, lst ys) :: news))
      ?_ (vs.length + 1) ⟨h₁, _, 0, [], rfl, Nat.le_add_right .., Nat.zero_le _, rfl, rfl, hI.at fun o e => old _ _ e, F0.keeps old, ⟨_, hns₁⟩, fun p hp => ?_⟩
    · rintro j s' ⟨h', tk, i, ys, rfl, htk, hi, rfl, hyl, hst, F', hn', N'⟩
      have hax' : h'.IsList ax vs.toArray := PySem.IsL.isList (n := k) (N' _ (List.mem_cons_of_mem _ hm)).1
      obtain ⟨m', hn'⟩ := hn'
      rcases Nat.lt_or_ge i vs.length with hlt | hge
      · refine any_toks (W.item i _ _ _ (by simpa using hlt) ⟨hst, hax'⟩ fun v h₂ tk₂ hv hst₂ hk₂ hle => ?_)
        have hv' : vs[i]? = some v := by simpa using hv
        obtain ⟨y, t, rfl, hy⟩ := hvs v (List.mem_of_getElem? hv')
        have kI : ∀ b o, b ≠ I → h'.get? b = some o → h₂.get? b = some o := fun b o hb e => hk₂ b o (by simpa using hb) e
        refine wpAny_assign_Name (wpAny_storeName_local (lookup_relabel_local hx0) (hn'.at' fun o e => kI _ o (Ne.symm eIC) e) (fun h₃ hn₃ hs₃ => ?_) (by simp [compEnvC, relabel, hkind]))
        have F₃ : Fr h₀ L h₃ m := (fr_but F' (fun b o hb e => kI b o (by simpa using hb) e) hIL hI₀).change hs₃ (Ne.symm eLC) nC
        have hst₃ : h₃.IsListIter I ax (i + 1) := hst₂.1.at fun o e => hs₃.extBut _ _ eIC e
        obtain ⟨oI, heI⟩ : ∃ o, h₃.get? I = some o := by obtain ⟨o, e, _⟩ := hst₃; exact ⟨o, e⟩
        obtain ⟨oC, heC, hoC⟩ := ns_obj hn₃
        have N₃ : News h₀ L h₃ ((C, oC) :: (D, lst ys) :: (I, oI) :: news) := fun p hp => by
          rcases List.mem_cons.mp hp with rfl | hp
          · exact ⟨heC, Ne.symm eLC, nC⟩
          · rcases List.mem_cons.mp hp with rfl | hp
            · have z := N' (D, lst ys) List.mem_cons_self
              exact ⟨hs₃.extBut _ _ eDC (kI _ _ (Ne.symm eID) z.1), z.2⟩
            · rcases List.mem_cons.mp hp with rfl | hp
              · exact ⟨heI, Ne.symm hIL, hI₀⟩
              · have z := N' p (List.mem_cons_of_mem _ hp)
                exact ⟨hs₃.extBut _ _ (hneC p hp) (kI _ _ (off p hp) z.1), z.2⟩
        have sub3 : ∀ p ∈ news, p ∈ ((C, oC) :: (D, lst ys) :: (I, oI) :: news) := fun p hp => List.mem_cons_of_mem _ (List.mem_cons_of_mem _ (List.mem_cons_of_mem _ hp))
        refine wpAny_mono (any_toks (wpAny_mono (word (.str y t) oC C _ h₃ _ _ _ ?_ hoC (by simp) F₃ N₃ List.mem_cons_self sub3) (fun x s₄ h₄ (hle₄ : _ ≤ s₄.toks) => (⟨h₄, hle₄⟩ : _ ∧ _)) fun _ _ e => e)) (fun x s₄ h₄ => ?_) fun _ _ e => e
        · exact Nat.le_trans htk (Nat.le_trans hle (Nat.le_add_right ..))
        obtain ⟨⟨h₄, tk₄, rfl, F₄, N₄, rfl⟩, hle₄⟩ := h₄
        obtain ⟨cls, hc, W'⟩ : ∃ cls, strIterType y = cls ∧ ∀ I, Walks prog w A I [I] [I] y.cps.size (SignAt y) (fun i h => h.IsStrIter I cls y t i) := by
          cases ha : y.cps.all (· < 128)
          · exact ⟨_, by simp [strIterType, ha], fun I => Walks.strWide hh I y t⟩
          · exact ⟨_, by simp [strIterType, ha], fun I => Walks.strAscii hh I y t⟩
        refine wpAny_pyIter_strU ?_
        rw [hc]
        obtain ⟨J, hJv⟩ : ∃ J, h₄.objs.size = J := ⟨_, rfl⟩
        obtain ⟨h₅, hh₅⟩ : ∃ h₅, h₄.push { cls := .type cls, data := .fields #[.str y t, .int 0 0] } = h₅ := ⟨_, rfl⟩
        have up : ∀ b o, h₄.get? b = some o → h₅.get? b = some o := fun b o e => hh₅ ▸ Heap.get?_push_of_some _ e
        have stJ : h₅.IsStrIter J cls y t 0 := by rw [← hh₅, ← hJv]; exact ⟨_, Heap.get?_push_size _ rfl, rfl, rfl⟩
        dsimp only
        rw [hh₅, hJv]
        have lt4 : ∀ p ∈ ((C, oC) :: (D, lst ys) :: (I, oI) :: news), @LT.lt Nat _ p.1 J := fun p hp => hJv ▸ Heap.lt_size (N₄ p hp).1
        have F₅ : Fr h₀ L h₅ m := F₄.keeps up
        have N₅ : News h₀ L h₅ ((C, oC) :: (D, lst ys) :: (I, oI) :: news) := N₄.grown up
        have eJC : @Ne Nat J C := Ne.symm (Nat.ne_of_lt (lt4 (C, oC) List.mem_cons_self))
        have eJD : @Ne Nat J D := Ne.symm (Nat.ne_of_lt (lt4 (D, lst ys) (List.mem_cons_of_mem _ List.mem_cons_self)))
        have eLJ : @Ne Nat L J := Nat.ne_of_lt (hJv ▸ F₄.ns.lt)
        have nJ : h₀.get? J = none := hJv ▸ next_is_new F₄
        have hyl' : ys.length ≤ 10 * 100 := by
          rw [hyl]
          refine Nat.le_trans (cnt2_le P _ fun v hv => hvs v (List.mem_of_mem_take hv)) (Nat.mul_le_mul_left _ (Nat.le_trans (List.length_take_le ..) (by (first | lia | omega))))
        have hsn := cnt2_snoc P hv'
        have inner : ∀ s₆ : Shared, s₆ = { s₁ with heap := h₅, toks := tk₄ } → codeAny (model prog w) A (.compLoop (.ListComp elt [⟨.Name x0 p0, iter, [], 0⟩, ⟨.Name x1 p1, .Name x0 q0, [c1], 0⟩] scope pos) 1 (.ref J) (.ref D) (compEnvC scope cl C env))
            (fun r s₅ => match r with
              | .ok _ => ∃ m_1, m_1 < vs.length + 1 - i ∧ ∃ h' tk i ys, s₅ = { s₁ with heap := h', toks := tk } ∧ s₁.toks ≤ tk ∧ i ≤ vs.length ∧ m_1 = vs.length + 1 - i ∧ ys.length = cnt2 P (vs.take i) ∧ h'.IsListIter I ax i ∧ Fr h₀ L h' m ∧ (∃ m', h'.Ns C m') ∧ News h₀ L h' ((D, lst ys) :: news)
              | .error e => cameBackBy (model prog w) A (compEnvC scope cl C env) (notedBy (model prog w) A (compEnvC scope cl C env) fun e s' => compPost (model prog w) A E none Q (.ref D) C (.error e) s') e s₅) s₆ := by
          rintro s₆ rfl
          refine inner_T (s := { s₁ with heap := h₅, toks := tk₄ }) (news := (I, oI) :: news) (ys₀ := ys) (n₀ := s₁.toks) (m := m) (h₀ := h₀) (L := L) P (W' J) hkind hx1 stJ ?_ F₅ ⟨_, hoC.ns (N₅ (C, oC) List.mem_cons_self).1⟩ (fun p hp => N₅ p (List.mem_cons_of_mem _ hp)) eJC eJD eDC eLJ eLC eLD nJ nC nD ?_ (by (first | lia | omega)) ?_ ?_ ?_
          · exact Nat.le_trans htk (Nat.le_trans hle (Nat.le_trans (Nat.le_add_right ..) hle₄))
          · intro p hp
            refine ⟨Nat.ne_of_lt (lt4 p (List.mem_cons_of_mem _ (List.mem_cons_of_mem _ hp))), ?_⟩
            rcases List.mem_cons.mp hp with rfl | hp
            · exact ⟨eIC, eID⟩
            · exact ⟨hneC p hp, hneD p hp⟩
          · intro c oJ oC' m₂ h ta tk ys E' htk hC' hm₂ F N
            exact test c oC' C m₂ h ta tk _ E' htk hC' hm₂ F N (by simp) fun p hp => by simp [hp]
          · intro c oJ oC' m₂ h ta tk ys E' htk hC' hm₂ F N
            exact elem c oC' C m₂ h ta tk _ E' htk hC' hm₂ F N (by simp) fun p hp => by simp [hp]
          · intro h tk ys₂ htk₂ hys₂ F N hn
            refine ⟨vs.length + 1 - (i + 1), by (first | lia | omega), h, tk, i + 1, ys₂, rfl, htk₂, hlt, rfl, by rw [hsn, hys₂, hyl], ?_, F, hn, fun p hp => ?_⟩
            · refine hst₃.at fun o e => ?_
              rw [heI] at e
              cases e
              exact (N (I, oI) (List.mem_cons_of_mem _ List.mem_cons_self)).1
            · rcases List.mem_cons.mp hp with rfl | hp
              · exact N _ List.mem_cons_self
              · exact N p (List.mem_cons_of_mem _ (List.mem_cons_of_mem _ hp))
        exact start_in (inner _ rfl) ((W' J).self 0 _ _ _ stJ (inner _ rfl))
      · obtain rfl : i = vs.length := Nat.le_antisymm hi hge
        refine any_toks (W.done _ _ _ ⟨by simpa using hst, hax'⟩ fun h₂ tk₂ hk₂ hle => ?_)
        have kI : ∀ b o, b ∉ [I] → h'.get? b = some o → h₂.get? b = some o := hk₂
        rw [List.take_length] at hyl
        refine ⟨m', hn'.at' fun o e => kI _ o (by simpa using Ne.symm eIC) e, fun h'' hs'' => fin D h'' tk₂ ys (Nat.le_trans htk hle) hyl ((fr_but F' kI hIL hI₀).change hs'' (Ne.symm eLC) nC) (fun p hp => ?_) (off1_of fun p hp => hneD p hp)⟩
        have z := N' p hp
        have hp2 : p.1 ≠ I ∧ p.1 ≠ C := by
          rcases List.mem_cons.mp hp with rfl | hp
          · exact ⟨Ne.symm eID, eDC⟩
          · exact ⟨off p hp, hneC p hp⟩
        exact ⟨hs''.extBut _ _ hp2.2 (kI _ _ (by simpa using hp2.1) z.1), z.2⟩
    · rcases List.mem_cons.mp hp with rfl | hp
      · exact ⟨hacc, Ne.symm eLD, nD⟩
      · exact ⟨old _ _ (N0 p hp).1, (N0 p hp).2⟩
  exact codeAny_compStart_list (loop _ rfl) (W.self 0 _ _ _ ⟨hI.at fun o e => old _ _ e, (PySem.IsL.isList (n := k) (N0 _ hm).1).at fun o e => old _ _ e⟩ (loop _ rfl))
end
end Mine
end

section
open PySem PySem.W PyProof.Rows
set_option maxRecDepth 100000
namespace Mine
noncomputable def rulerS (U V : Nat) (ri fa n : Int) : Str := Txt.mul (if ri = 1 then Txt.upper ⟨#[U]⟩ else ⟨#[U]⟩) n ++ Txt.mul (if fa = 1 then Txt.upper ⟨#[V]⟩ else ⟨#[V]⟩) n
noncomputable def nW (W : Nat → Str) : Int := (W 0).length + (W 1).length + (W 2).length
noncomputable def isV (V : Nat) (c : Nat) : Bool := (⟨#[c]⟩ : Str) == ⟨#[V]⟩
noncomputable def cntV (V : Nat) (x : Str) : Int := ((x.cps.toList.filter (isV V)).length : Nat)
noncomputable def topW (V : Nat) (fa : Int) (W : Nat → Str) : Int := 4 * nW W - fa * (cntV V (W 0) + cntV V (W 1) + cntV V (W 2))
noncomputable def P3 (i j k : Nat) : Prop := i < 3 ∧ j < 3 ∧ k < 3 ∧ i ≠ j ∧ j ≠ k ∧ i ≠ k
noncomputable def stepW (U V : Nat) (ri fa : Int) (x : Str) : Int := ri * cntN (tl x) U - fa * cntN (tl x) V
noncomputable def abv (x : Int) : Int := if 0 < x then x else 0
noncomputable def ringsL (a b c : Int) : List Int := [abv a + abv b + abv c, abv (a + b) + abv c, abv (a + c) + abv b, abv (b + c) + abv a, abv (a + b + c), abv (a + b + c)]
noncomputable def cat3 (W : Nat → Str) (i j k : Nat) : Str := W i ++ W j ++ W k
noncomputable def six {α : Type} (f : Nat → Nat → Nat → α) : List α := [f 0 1 2, f 0 2 1, f 1 0 2, f 1 2 0, f 2 0 1, f 2 1 0]
noncomputable def hdS (W : Nat → Str) : Str := Txt.slice (cat3 W 2 1 0) none (some 3)
/-- what the walk asks of the words and the typed texts -/
structure LawF (U V : Nat) (ri fa : Int) (W T : Nat → Str) (H : Nat → Nat → Nat → Int) : Prop where
  wl : ∀ i, 1 ≤ (W i).length ∧ (W i).length ≤ 2
  tlen : ∀ i, (T i).length ≤ 3
  ok : ∀ i, ∀ c ∈ tl (T i), Okc c
  pr : ∀ i j k, Txt.join (Str.ofString "") (sigs (tl (T i ++ T j ++ T k))) = cat3 W i j k
  top : 0 ≤ topW V fa W ∧ topW V fa W ≤ 100
  hgt : ∀ i j k, 0 ≤ H i j k ∧ H i j k ≤ 100
  rl : (rulerS U V ri fa (nW W)).length ≤ 60
  l1 : ∀ i j k, P3 i j k → topW V fa W - levS (cat3 W i j k) (rulerS U V ri fa (nW W)) (topW V fa W) = H i j k
  l2 : ∀ i j k, P3 i j k → topW V fa W - levS (rulerS U V ri fa (nW W)) (cat3 W i j k) (topW V fa W) = H i j k
  l3 : ∀ i j k, P3 i j k → levS (rulerS U V ri fa (nW W)) (cat3 W i j k) (2 * nW W - 1) = 2 * nW W
  l4 : ∀ i j k, P3 i j k → levS (W i) (cat3 W i j k) (-1) = 2 * (nW W - (W i).length)
  l5 : ∀ i j k, P3 i j k → levS (cat3 W i j k) (W k) (-1) = 2 * (nW W - (W k).length)
  len : ∀ i j k, P3 i j k → ((cat3 W i j k).length : Int) = nW W
  hl : (hdS W).length ≤ 3
  h1 : levS (hdS W ++ Str.ofString "xyaB") (Str.ofString "x" ++ hdS W ++ Str.ofString "zAb") 8 = 8
  h2 : levS (hdS W ++ Str.ofString "xyaB") (Str.ofString "x" ++ hdS W ++ Str.ofString "zAb") 1 = 2
  h3 : levS (hdS W) (Txt.upper (hdS W)) 3 = 3
  h4 : levS (cat3 W 2 1 0) (Txt.mul (Str.ofString "x") 41) 99 = 100
  rsm : ∀ x ∈ ringsL (stepW U V ri fa (W 0)) (stepW U V ri fa (W 1)) (stepW U V ri fa (W 2)), smallInt x = true
  boh : ∀ h ∈ six H, cntI (six H) h = cntI (ringsL (stepW U V ri fa (W 0)) (stepW U V ri fa (W 1)) (stepW U V ri fa (W 2))) h
theorem prep_okW {U V : Nat} {ri fa : Int} {W T : Nat → Str} {H : Nat → Nat → Nat → Int} (LF : LawF U V ri fa W T H) (w : World) (i j k : Nat) (ty : Tok) : ClN 4 w 172 [.str (T i ++ T j ++ T k) ty] fun v new => ∃ t, new = [] ∧ v = .str (cat3 W i j k) t := by
  rw [← LF.pr i j k]
  refine prep_ok w _ ty ?_ ?_
  · have h1 := LF.tlen i
    have h2 := LF.tlen j
    have h3 := LF.tlen k
    simp only [Str.length_append]
    (first | lia | omega)
  · intro c hc
    rw [tl_append, tl_append] at hc
    rcases List.mem_append.mp hc with hc | hc
    · rcases List.mem_append.mp hc with hc | hc
      · exact LF.ok _ c hc
      · exact LF.ok _ c hc
    · exact LF.ok _ c hc
section
variable {prog : Program} {w : World} {A : Around} {E : Value → Shared → Prop} {s : Shared} {h₀ : Heap} {L D : Addr} {news : Led} {k : Nat} {l : List Value} {n : Int}
theorem len_lst {Q : Value → Shared → Prop} (N : News h₀ L s.heap news) (hm : (D, listOf (List.toArray l) k) ∈ news) (hy : l.length ≤ 1000) (hn : (l.length : Int) = n)
    (h : Q (.int n (s.toks + 1)) { s with toks := s.toks + 1 + 1 }) : wpAny (model prog w) A (call (.builtin "len") [.ref D]) Q E s := by
  subst hn
  refine len_list (PySem.IsL.isList (n := k) (N _ hm).1) ?_ ?_
  · simp only [List.size_toArray]; (first | lia | omega)
  · simpa using h
end
section
variable {prog : Program} {w : World} {A : Around} {E : Value → Shared → Prop} {s : Shared} {env : Env} {x : Str} {px : Pos} {body : List Stmt} {Q : Flow → Shared → Prop}
theorem For_T2 {pos : Pos} {iter : Expr} (hs : ∀ x, foldedSetIterable iter env x = pure x)
    (h : wpAny (model prog w) A (eval iter env) (fun xv s₁ => wpAny (model prog w) A (pyIter xv) (fun it s₂ => LoopAtT prog w A env x px body Q E it s₂) E s₁) E s)
    : wpAny (model prog w) A (exec (.For (.Name x px) iter body [] pos) env) Q E s := wpAny_For h hs
end
theorem folded_list {es : List Expr} {p : Pos} {env : Env} {x : Value} : foldedSetIterable (.List es p) env x = pure x := by rfl
theorem three_atN {α : Type} {f : Nat → α} {g : α → Tok → Value} {a b c : Tok} {i : Nat} (h : i < 3) : ∃ y, [g (f 0) a, g (f 1) b, g (f 2) c][((i : Nat) : Int).toNat]? = some (g (f i) y) := by
  rcases i with _ | _ | _ | i
  · exact ⟨a, rfl⟩
  · exact ⟨b, rfl⟩
  · exact ⟨c, rfl⟩
  · (first | lia | omega)
section
variable {U V : Nat} {ri fa : Int} {W T : Nat → Str} {H : Nat → Nat → Nat → Int} (LF : LawF U V ri fa W T H)
include LF
theorem con1 (i : Nat) : (T i).length ≤ 100 := Nat.le_trans (LF.tlen i) (by decide)
theorem con2 (i j : Nat) : (T i ++ T j).length ≤ 100 := by
  have h1 := LF.tlen i
  have h2 := LF.tlen j
  simp only [Str.length_append]
  (first | lia | omega)
theorem wle (i : Nat) : (W i).length ≤ 60 := Nat.le_trans (LF.wl i).2 (by decide)
theorem cle (i j k : Nat) : (cat3 W i j k).length ≤ 60 := by
  have h1 := (LF.wl i).2
  have h2 := (LF.wl j).2
  have h3 := (LF.wl k).2
  simp only [cat3, Str.length_append]
  (first | lia | omega)
theorem nle : 3 ≤ nW W ∧ nW W ≤ 6 := by
  have h1 := LF.wl 0
  have h2 := LF.wl 1
  have h3 := LF.wl 2
  unfold nW
  (first | lia | omega)
theorem mx1 : -1000 ≤ topW V fa W := by have := LF.top; (first | lia | omega)
theorem mx2 : topW V fa W ≤ 1000 := by have := LF.top; (first | lia | omega)
theorem mx3 : -1000 ≤ 2 * nW W - 1 := by have := nle LF; (first | lia | omega)
theorem mx4 : 2 * nW W - 1 ≤ 1000 := by have := nle LF; (first | lia | omega)
theorem below_eq {p q r : Nat} (hP : P3 p q r) : [levS (rulerS U V ri fa (nW W)) (cat3 W p q r) (2 * nW W - 1), levS (cat3 W p q r) (cat3 W p q r) (-1), levS (W p) (cat3 W p q r) (-1), levS (cat3 W p q r) (W r) (-1)]
    = [2 * nW W, 0, 2 * (nW W - ((W p).length : Int)), 2 * (nW W - ((W r).length : Int))] := by
  rw [LF.l3 p q r hP, levS_eq, LF.l4 p q r hP, LF.l5 p q r hP]
theorem gt_okF {p q r : Nat} (hP : P3 p q r) (w : World) (tx ty : Tok) : ClN 2 w 35 [.int ((cat3 W p q r).length : Int) tx, .int (nW W) ty] fun v new => new = [] ∧ v = .bool false := by
  have e : decide (nW W < ((cat3 W p q r).length : Int)) = false := by rw [LF.len p q r hP]; simp
  rw [← e]
  exact gt_ok w _ _ _ _
theorem wfit (i : Nat) : ¬ (((W i).length : Int) ≥ 2 ^ 63) := by have := (LF.wl i).2; (first | lia | omega)
theorem cfit (i j k : Nat) : ¬ (((cat3 W i j k).length : Int) ≥ 2 ^ 63) := by have := cle LF i j k; (first | lia | omega)
theorem cadd2 (i j : Nat) : (W i).length + (W j).length ≤ sizeLine := by
  have h1 := (LF.wl i).2
  have h2 := (LF.wl j).2
  rw [sizeLine_eq]; (first | lia | omega)
theorem cadd3 (i j k : Nat) : (W i ++ W j).length + (W k).length ≤ sizeLine := by
  have h1 := (LF.wl i).2
  have h2 := (LF.wl j).2
  have h3 := (LF.wl k).2
  rw [sizeLine_eq, Str.length_append]; (first | lia | omega)
end
section
variable {prog : Program} {w : World} {A : Around} {E : Value → Shared → Prop} {s : Shared} {h₀ : Heap} {L : Addr} {news : Led}
theorem ne_sameS {x : Str} {t u : Tok} {Q : Value → Shared → Prop} (h : Q (.bool false) s) : wpAny (model prog w) A (compareOp .NotEq (.str x t) (.str x u)) Q E s :=
  ne_str (by simpa using h)
theorem ne_ints_same {D1 D2 : Addr} {xs ys : List Value} {k j : Nat} {ns ms : List Int} {Q : Value → Shared → Prop} (N : News h₀ L s.heap news) (h1 : (D1, listOf (List.toArray xs) k) ∈ news) (h2 : (D2, listOf (List.toArray ys) j) ∈ news)
    (hi : IntsAre xs ns) (hj : IntsAre ys ms) (hu : A.units + 64 < cLine) (e : ns = ms) (h : Q (.bool false) s) : wpAny (model prog w) A (compareOp .NotEq (.ref D1) (.ref D2)) Q E s :=
  ke_ne_ints (PySem.IsL.isList (n := k) (N _ h1).1) (PySem.IsL.isList (n := j) (N _ h2).1) hi hj hu (by
    have : (!decide (ns = ms)) = false := by simp [e]
    rw [this]; exact h)
/-- the end of a statement that puts one more int on the head list -/
noncomputable def ACut (h₀ : Heap) (L : Addr) (s : Shared) (m : FMap) (D : Addr) (vs : List Value) (c : Nat) (x : Int) (rest : Led) (Q : Flow → Shared → Prop) : Flow → Shared → Prop
  | .next, s₂ => ∃ h' tk t, s₂ = { s with heap := h', toks := tk } ∧ (@LE.le Nat _ s.toks t) ∧ (@LT.lt Nat _ t tk) ∧ Fr h₀ L h' m ∧ News h₀ L h' ((D, listOf (List.toArray (vs ++ [.int x t])) (c + 1)) :: rest)
  | f, s₂ => Q f s₂
theorem cut_app {st : Stmt} {env : Env} {m : FMap} {D : Addr} {vs : List Value} {c : Nat} {x : Int} {rest : Led} {Q : Flow → Shared → Prop} (_F : Fr h₀ L s.heap m) (_N : News h₀ L s.heap ((D, listOf (List.toArray vs) c) :: rest)) (h : wpAny (model prog w) A (exec st env) (ACut h₀ L s m D vs c x rest Q) E s)
    (go : ∀ t h₁ tk₁, (@LE.le Nat _ s.toks t) → (@LT.lt Nat _ t tk₁) → Fr h₀ L h₁ m → News h₀ L h₁ ((D, listOf (List.toArray (vs ++ [.int x t])) (c + 1)) :: rest) → Q .next { s with heap := h₁, toks := tk₁ }) : wpAny (model prog w) A (exec st env) Q E s := by
  refine wpAny_mono h (fun f s₂ h₂ => ?_) fun _ _ e => e
  cases f <;> first | exact h₂ | (obtain ⟨h', tk, t, rfl, a, b, F, N⟩ := h₂; exact go t h' tk a b F N)
end
noncomputable def bodyOf : List Stmt → List Stmt
  | .For _ _ b _ _ :: _ => b
  | _ => []
theorem map5 {M : FMap} {v1 v2 v3 v4 v5 : Value} (h1 : M (Str.ofString "heights") = some v1) (h2 : M (Str.ofString "top") = some v2) (h3 : M (Str.ofString "ruler") = some v3) (h4 : M (Str.ofString "size") = some v4) (h5 : M (Str.ofString "typed") = some v5) :
    M = fun z => if z = Str.ofString "heights" then some v1 else if z = Str.ofString "top" then some v2 else if z = Str.ofString "ruler" then some v3 else if z = Str.ofString "size" then some v4 else if z = Str.ofString "typed" then some v5 else M z := by
  funext z
  split
  · subst z; exact h1
  · split
    · subst z; exact h2
    · split
      · subst z; exact h3
      · split
        · subst z; exact h4
        · split
          · subst z; exact h5
          · rfl
theorem map5F {h₀ h : Heap} {L : Addr} {M : FMap} {v1 v2 v3 v4 v5 : Value} (F : Fr h₀ L h M) (h1 : M (Str.ofString "heights") = some v1) (h2 : M (Str.ofString "top") = some v2) (h3 : M (Str.ofString "ruler") = some v3) (h4 : M (Str.ofString "size") = some v4) (h5 : M (Str.ofString "typed") = some v5) :
    Fr h₀ L h (fun z => if z = Str.ofString "heights" then some v1 else if z = Str.ofString "top" then some v2 else if z = Str.ofString "ruler" then some v3 else if z = Str.ofString "size" then some v4 else if z = Str.ofString "typed" then some v5 else M z) :=
  Eq.mp (congrArg (Fr h₀ L h) (map5 h1 h2 h3 h4 h5)) F
noncomputable def HT (vs : List Value) (n : Nat) : Prop := ∀ (j : Nat) (x : Int) (t : Tok), vs[j]? = some (.int x t) → (@Ne Nat t 0) ∧ (@LT.lt Nat _ t n)
theorem HT.mono {vs : List Value} {n m : Nat} (h : HT vs n) (hnm : n ≤ m) : HT vs m := fun j x t e => ⟨(h j x t e).1, Nat.lt_of_lt_of_le (h j x t e).2 hnm⟩
theorem HT.snoc {vs : List Value} {n : Nat} {x : Int} {t : Tok} (h : HT vs n) (h0 : @Ne Nat t 0) (h1 : @LT.lt Nat _ t n) : HT (vs ++ [.int x t]) n := by
  intro j y u e
  rcases Nat.lt_or_ge j vs.length with hl | hl
  · rw [List.getElem?_append_left hl] at e
    exact h j y u e
  · rw [List.getElem?_append_right hl] at e
    rcases hz : j - vs.length with _ | z
    · rw [hz] at e
      simp at e
      obtain ⟨_, rfl⟩ := e
      exact ⟨h0, h1⟩
    · rw [hz] at e; simp at e
theorem or_ge {k a b n : Nat} (h : a = b ∨ n ≤ a) (h1 : k ≤ b) (h2 : k ≤ n) : k ≤ a := by (first | lia | omega)
theorem led_turn {OS LED own : Led} {x y : Addr × Obj} (hy : y ∈ OS) : ∀ z ∈ x :: y :: (LED ++ (OS ++ own)), z ∈ (OS ++ x :: LED) ++ own := by
  intro z hz
  simp only [List.mem_cons, List.mem_append] at hz ⊢
  rcases hz with rfl | rfl | hz | hz | hz
  · exact .inl (.inr (.inl rfl))
  · exact .inl (.inl hy)
  · exact .inl (.inr (.inr hz))
  · exact .inl (.inl hz)
  · exact .inr hz
theorem led_back {OS LED own : Led} {x y : Addr × Obj} : ∀ z ∈ OS ++ x :: LED, z ∈ x :: y :: (LED ++ (OS ++ own)) := by
  intro z hz
  simp only [List.mem_cons, List.mem_append] at hz ⊢
  rcases hz with hz | rfl | hz
  · exact .inr (.inr (.inr (.inl hz)))
  · exact .inl rfl
  · exact .inr (.inr (.inl hz))
theorem led_own {OS LED own : Led} {x y : Addr × Obj} : ∀ z ∈ own, z ∈ x :: y :: (LED ++ (OS ++ own)) := by
  intro z hz
  simp only [List.mem_cons, List.mem_append]
  exact .inr (.inr (.inr (.inr hz)))
noncomputable abbrev ordL (a : Addr) (p q r : Int) (t u v : Tok) (c : Nat) : Addr × Obj := (a, listOf #[.int p t, .int q u, .int r v] c)
theorem six_at {a0 a1 a2 a3 a4 a5 : Addr} {i : Nat} {v : Value} {t0 t1 t2 t3 t4 t5 t6 t7 t8 t9 tA tB tC tD tE tF tG tI : Tok} {c : Nat} (H : Nat → Nat → Nat → Int) (W : Nat → Str) (h : [Value.ref a0, .ref a1, .ref a2, .ref a3, .ref a4, .ref a5][i]? = some v) :
    ∃ p q r ad tp tq tz, v = .ref ad ∧ P3 p q r ∧ ordL ad (p : Nat) (q : Nat) (r : Nat) tp tq tz c ∈ [ordL a5 2 1 0 tF tG tI c, ordL a4 2 0 1 tC tD tE c, ordL a3 1 2 0 t9 tA tB c, ordL a2 1 0 2 t6 t7 t8 c, ordL a1 0 2 1 t3 t4 t5 c, ordL a0 0 1 2 t0 t1 t2 c] ∧
      i < 6 ∧ (six H)[i]? = some (H p q r) ∧ (six (cat3 W)).getD i ⟨#[]⟩ = cat3 W p q r := by
  rcases i with _ | _ | _ | _ | _ | _ | i
  · simp at h; exact ⟨0, 1, 2, a0, t0, t1, t2, h.symm, by unfold P3; decide, .tail _ (.tail _ (.tail _ (.tail _ (.tail _ (.head _))))), by decide, rfl, rfl⟩
  · simp at h; exact ⟨0, 2, 1, a1, t3, t4, t5, h.symm, by unfold P3; decide, .tail _ (.tail _ (.tail _ (.tail _ (.head _)))), by decide, rfl, rfl⟩
  · simp at h; exact ⟨1, 0, 2, a2, t6, t7, t8, h.symm, by unfold P3; decide, .tail _ (.tail _ (.tail _ (.head _))), by decide, rfl, rfl⟩
  · simp at h; exact ⟨1, 2, 0, a3, t9, tA, tB, h.symm, by unfold P3; decide, .tail _ (.tail _ (.head _)), by decide, rfl, rfl⟩
  · simp at h; exact ⟨2, 0, 1, a4, tC, tD, tE, h.symm, by unfold P3; decide, .tail _ (.head _), by decide, rfl, rfl⟩
  · simp at h; exact ⟨2, 1, 0, a5, tF, tG, tI, h.symm, by unfold P3; decide, .head _, by decide, rfl, rfl⟩
  · simp at h
section
variable {U V : Nat} {ri fa : Int} {W T : Nat → Str} {H : Nat → Nat → Nat → Int} (LF : LawF U V ri fa W T H)
include LF
theorem csz (i j k : Nat) : (cat3 W i j k).length ≤ sizeLine := Nat.le_trans (cle LF i j k) (by rw [sizeLine_eq]; decide)
theorem h12 : [levS (hdS W ++ Str.ofString "xyaB") (Str.ofString "x" ++ hdS W ++ Str.ofString "zAb") 8, levS (hdS W ++ Str.ofString "xyaB") (Str.ofString "x" ++ hdS W ++ Str.ofString "zAb") 1] = [8, 2] := by rw [LF.h1, LF.h2]
theorem h34 : [levS (hdS W) (Txt.upper (hdS W)) 3, levS (cat3 W 2 1 0) (Txt.mul (Str.ofString "x") 41) 99] = [3, 100] := by rw [LF.h3, LF.h4]
theorem hle : (hdS W).length ≤ 60 := Nat.le_trans LF.hl (by decide)
theorem hup : (Txt.upper (hdS W)).length ≤ 60 := by
  have := LF.hl
  have := len_upper (hdS W)
  (first | lia | omega)
theorem hbe : (hdS W ++ Str.ofString "xyaB").length ≤ 60 := by
  have := LF.hl
  have e : (Str.ofString "xyaB").length = 4 := by decide
  rw [Str.length_append, e]; (first | lia | omega)
theorem hah : (Str.ofString "x" ++ hdS W ++ Str.ofString "zAb").length ≤ 60 := by
  have := LF.hl
  have e : (Str.ofString "zAb").length = 3 := by decide
  have e2 : (Str.ofString "x").length = 1 := by decide
  rw [Str.length_append, Str.length_append, e, e2]; (first | lia | omega)
theorem hadd1 : (hdS W).length + (Str.ofString "xyaB").length ≤ sizeLine := by
  have := LF.hl
  have e : (Str.ofString "xyaB").length = 4 := by decide
  rw [sizeLine_eq, e]; (first | lia | omega)
theorem hadd2 : (Str.ofString "x").length + (hdS W).length ≤ sizeLine := by
  have := LF.hl
  have e2 : (Str.ofString "x").length = 1 := by decide
  rw [sizeLine_eq, e2]; (first | lia | omega)
theorem hadd3 : (Str.ofString "x" ++ hdS W).length + (Str.ofString "zAb").length ≤ sizeLine := by
  have := LF.hl
  have e : (Str.ofString "zAb").length = 3 := by decide
  have e2 : (Str.ofString "x").length = 1 := by decide
  rw [sizeLine_eq, Str.length_append, e, e2]; (first | lia | omega)
theorem upfit5 : (hdS W).length ≤ 5592405 := Nat.le_trans LF.hl (by decide)
end
theorem x41 : (Txt.mul (Str.ofString "x") 41).length ≤ 60 := by decide +kernel
noncomputable def RT (rs : List Value) (n : Nat) : Prop := ∀ (j : Nat) (x : Int) (t : Tok), rs[j]? = some (.int x t) → @LE.le Nat _ n t
theorem RT6 {n : Nat} {x1 x2 x3 x4 x5 x6 : Int} {t1 t2 t3 t4 t5 t6 : Tok} (h1 : @LE.le Nat _ n t1) (h2 : @LE.le Nat _ n t2) (h3 : @LE.le Nat _ n t3) (h4 : @LE.le Nat _ n t4) (h5 : @LE.le Nat _ n t5) (h6 : @LE.le Nat _ n t6) :
    RT [.int x1 t1, .int x2 t2, .int x3 t3, .int x4 t4, .int x5 t5, .int x6 t6] n := by
  intro j x t e
  rcases j with _ | _ | _ | _ | _ | _ | j
  all_goals (simp at e)
  all_goals (obtain ⟨_, rfl⟩ := e; assumption)
theorem map1F {h₀ h : Heap} {L : Addr} {M : FMap} {v1 : Value} (F : Fr h₀ L h M) (h1 : M (Str.ofString "heights") = some v1) : Fr h₀ L h (fun z => if z = Str.ofString "heights" then some v1 else M z) := by
  have e : M = fun z => if z = Str.ofString "heights" then some v1 else M z := by
    funext z
    split
    · subst z; exact h1
    · rfl
  exact Eq.mp (congrArg (Fr h₀ L h) e) F
theorem map2F {h₀ h : Heap} {L : Addr} {M : FMap} {v1 v2 : Value} {y : Str} (F : Fr h₀ L h M) (h1 : M (Str.ofString "heights") = some v1) (h2 : M y = some v2) : Fr h₀ L h (fun z => if z = Str.ofString "heights" then some v1 else if z = y then some v2 else M z) := by
  have e : M = fun z => if z = Str.ofString "heights" then some v1 else if z = y then some v2 else M z := by
    funext z
    split
    · subst z; exact h1
    · split
      · subst z; exact h2
      · rfl
  exact Eq.mp (congrArg (Fr h₀ L h) e) F
theorem news_two {h₀ h : Heap} {L : Addr} {x y z : Addr × Obj} {rest : Led} (N : News h₀ L h (x :: z :: y :: rest)) : News h₀ L h [x, y] := fun p hp => N p (by
  rcases List.mem_cons.mp hp with rfl | hp
  · exact List.mem_cons_self
  · rcases List.mem_cons.mp hp with rfl | hp
    · exact List.mem_cons_of_mem _ (List.mem_cons_of_mem _ List.mem_cons_self)
    · exact absurd hp List.not_mem_nil)
theorem compEnd_new {h₀ : Heap} {L I C D : Addr} {m : Str → Option Value} {s₁ : Shared} {oI oC oD : Obj} {S : List (Addr × Obj) → Prop} {rest : Value → List (Addr × Obj) → Prop} {y : Value} {h' : Heap} {tk : Nat} {x : Addr × Obj} {old : Led}
    (F : Fr h₀ L h' m) (N : News h₀ L h' (x :: (I, oI) :: (C, oC) :: (D, oD) :: old)) (hx : (@Ne Nat x.1 I) ∧ (@Ne Nat x.1 C) ∧ (@Ne Nat x.1 D)) (off : LCg.Off3 I C D old) (hS : S (x :: old)) (r : rest y (x :: old)) :
    LCg.CompEnd h₀ L m s₁ I oI C oC D oD S rest y { s₁ with heap := h', toks := tk } :=
  LCg.CompEnd.intro F N (x :: old) (fun p hp => by
    simp only [List.mem_cons] at hp ⊢
    rcases hp with rfl | rfl | rfl | rfl | hp
    · exact .inr (.inl rfl)
    · exact .inr (.inr (.inl rfl))
    · exact .inr (.inr (.inr (.inl rfl)))
    · exact .inl rfl
    · exact .inr (.inr (.inr (.inr hp)))) ⟨hx, off⟩ hS r
theorem folded_name {x : Str} {p : Pos} {env : Env} {v : Value} : foldedSetIterable (.Name x p) env v = pure v := by rfl
theorem six_ints {vs : List Value} {H : Nat → Nat → Nat → Int} (h : IntsAre vs (six H)) : ∃ q0 q1 q2 q3 q4 q5, vs = [.int (H 0 1 2) q0, .int (H 0 2 1) q1, .int (H 1 0 2) q2, .int (H 1 2 0) q3, .int (H 2 0 1) q4, .int (H 2 1 0) q5] := by
  unfold six at h
  cases h with
  | cons _ q0 h => cases h with
    | cons _ q1 h => cases h with
      | cons _ q2 h => cases h with
        | cons _ q3 h => cases h with
          | cons _ q4 h => cases h with
            | cons _ q5 h => cases h with
              | nil => exact ⟨q0, q1, q2, q3, q4, q5, rfl⟩
theorem map2E {M : FMap} {v1 v2 : Value} {y : Str} (h1 : M (Str.ofString "heights") = some v1) (h2 : M y = some v2) : M = (fun z => if z = Str.ofString "heights" then some v1 else if z = y then some v2 else M z) := by
  funext z
  split
  · subst z; exact h1
  · split
    · subst z; exact h2
    · rfl
theorem led2_in {own : Led} {x y : Addr × Obj} (hy : y ∈ own) : ∀ z ∈ x :: y :: own, z ∈ [x] ++ own := by
  intro z hz
  simp only [List.mem_cons, List.mem_append, List.not_mem_nil, or_false] at hz ⊢
  rcases hz with rfl | rfl | hz
  · exact .inl rfl
  · exact .inr hy
  · exact .inr hz
theorem newsSub {h₀ h : Heap} {L : Addr} {a b : Led} (N : News h₀ L h a) (s : ∀ p ∈ b, p ∈ a) : News h₀ L h b := fun p hp => N p (s p hp)
end Mine
end

section
open PySem PySem.W PyProof.Rows Mine


section
open PySem PySem.W PyProof.Rows Mine
local macro_rules | `(tactic| walk_at "execs cons") => `(tactic| (refine wpAny_execs_cons ?_))
local macro_rules | `(tactic| walk_at "execs nil") => `(tactic| (refine wpAny_execs_nil ?_))

section
open PySem PySem.W PyProof.Rows
set_option maxRecDepth 100000
namespace Mine
-- a local whose value a fact tells

local macro_rules | `(tactic| walk_at "compareOp NotEq str str") => `(tactic| (k_here; refine ne_sameS ?_))
set_option maxHeartbeats 16000000 in
theorem turn_4 (w : World) (x0 x1 x2 x3 : Int) (hx3 : 0 ≤ x3) (U V : Nat) (ri fa : Int) (hri : ri = 1 ∨ ri = 2) (hfa : fa = 1 ∨ fa = 2) (W T : Nat → Str) (H : Nat → Nat → Nat → Int) (LF : LawF U V ri fa W T H)
    (dp un : Nat) (gd : Option (List Code)) (fn : Addr) (ccd : Value) (outer : List Env) (A₀ : Around) (base h₀ h : Heap) (L D Dw Dt Dh a : Addr) (m : FMap) (o1 o2 o3 o4 o5 o6 : Obj) (t0 t1 t2 t3 tu tv tr tf wt0 wt1 wt2 yt0 yt1 yt2 tR tn tT tp tq tz : Tok) (cD k c ca p q r : Nat)
    (s : Shared) (Q : Flow → Shared → Prop) (E : Value → Shared → Prop) (mean : ExcName → Option Value) (mg mb : FMap)
    (B : Below A₀ base outer h₀) (X : (KK w.params).In h₀) (Tp : Top qv (looseW qv loose0) mean mg mb h₀)
    (d1 : o1.data = .cell (some (.ref D))) (d2 : o2.data = .cell (some (.str ⟨#[U]⟩ tu))) (d3 : o3.data = .cell (some (.str ⟨#[V]⟩ tv))) (d4 : o4.data = .cell (some (.int ri tr))) (d5 : o5.data = .cell (some (.int fa tf))) (d6 : o6.data = .cell (some (.ref Dw)))
    (hd : dp + 40 < recursionLimit) (hu : un + 800 < cLine) (hu0 : @Ne Nat tu 0) (hv0 : @Ne Nat tv 0) (huk : @LT.lt Nat _ tu k) (hvk : @LT.lt Nat _ tv k) (vs : List Value) (tail : Led) (hP : P3 p q r) (hvl : vs.length ≤ 1000)
    (F : Fr h₀ L h (fun z => if z = Str.ofString "order" then some (Value.ref a) else if z = Str.ofString "heights" then some (Value.ref Dh) else if z = Str.ofString "top" then some (Value.int (topW V fa W) tT) else if z = Str.ofString "ruler" then some (Value.str (rulerS U V ri fa (nW W)) tR) else if z = Str.ofString "size" then some (Value.int (nW W) tn) else if z = Str.ofString "typed" then some (Value.ref Dt) else m z))
    (N : News h₀ L h ((Dh, listOf (List.toArray vs) c) :: (a, listOf #[.int (p : Int) tp, .int (q : Int) tq, .int (r : Int) tz] ca) :: (Dt, LCg.lst [.str (T 0) yt0, .str (T 1) yt1, .str (T 2) yt2]) :: (Dw, LCg.lst [.str (W 0) wt0, .str (W 1) wt1, .str (W 2) wt2]) :: (D, listOf #[.int x0 t0, .int x1 t1, .int x2 t2, .int x3 t3] cD) :: (L + 1 + 1 + 1 + 1 + 1 + 1, o6) :: (L + 1 + 1 + 1 + 1 + 1, o5) :: (L + 1 + 1 + 1 + 1, o4) :: (L + 1 + 1 + 1, o3) :: (L + 1 + 1, o2) :: (L + 1, o1) :: tail)) (hDh : (@LT.lt Nat _ Dt Dh) ∧ (@LT.lt Nat _ Dw Dh) ∧ (@LT.lt Nat _ D Dh) ∧ (@LT.lt Nat _ (L + 1 + 1 + 1 + 1 + 1 + 1) Dh) ∧ (@LT.lt Nat _ (L + 1 + 1 + 1 + 1 + 1) Dh) ∧ (@LT.lt Nat _ (L + 1 + 1 + 1 + 1) Dh) ∧ (@LT.lt Nat _ (L + 1 + 1 + 1) Dh) ∧ (@LT.lt Nat _ (L + 1 + 1) Dh) ∧ (@LT.lt Nat _ (L + 1) Dh)) (haD : @Ne Nat a Dh) (htl : ∀ p ∈ tail, @Ne Nat p.1 Dh)
    (hR : ∀ (h' : Heap) (tk : Tok) (m' : FMap) (t tt : Tok), (@LE.le Nat _ k t) → (@LT.lt Nat _ t tk) → m' (Str.ofString "text") = some (.str (cat3 W p q r) tt) → Fr h₀ L h' (fun z => if z = Str.ofString "heights" then some (Value.ref Dh) else if z = Str.ofString "top" then some (Value.int (topW V fa W) tT) else if z = Str.ofString "ruler" then some (Value.str (rulerS U V ri fa (nW W)) tR) else if z = Str.ofString "size" then some (Value.int (nW W) tn) else if z = Str.ofString "typed" then some (Value.ref Dt) else m' z) →
      News h₀ L h' ((Dh, listOf (List.toArray (vs ++ [.int (H p q r) t])) (c + 1)) :: (a, listOf #[.int (p : Int) tp, .int (q : Int) tq, .int (r : Int) tz] ca) :: (Dt, LCg.lst [.str (T 0) yt0, .str (T 1) yt1, .str (T 2) yt2]) :: (Dw, LCg.lst [.str (W 0) wt0, .str (W 1) wt1, .str (W 2) wt2]) :: (D, listOf #[.int x0 t0, .int x1 t1, .int x2 t2, .int x3 t3] cD) :: (L + 1 + 1 + 1 + 1 + 1 + 1, o6) :: (L + 1 + 1 + 1 + 1 + 1, o5) :: (L + 1 + 1 + 1 + 1, o4) :: (L + 1 + 1 + 1, o3) :: (L + 1 + 1, o2) :: (L + 1, o1) :: tail) → Q .next ⟨h', s.gens, s.drawn, tk, s.os⟩) :
    wpAny (model r0.prog w) (ktrTop dp un gd (Str.ofString "law") d26.scope L fn ccd (cellsFrom (L + 1) d26.scope.names []) outer) (execs (bodyOf (d26.body.drop 12)) (envOfC (Str.ofString "law") d26.scope L fn ccd)) Q E ⟨h, s.gens, s.drawn, k, s.os⟩ := by
  revert X
  k_fill
  intro X
  delta d26
  dsimp only [List.drop, bodyOf]
  obtain ⟨yTp, hTp⟩ := three_atN (f := T) (g := fun x t => Value.str x t) (a := yt0) (b := yt1) (c := yt2) hP.1
  obtain ⟨yTq, hTq⟩ := three_atN (f := T) (g := fun x t => Value.str x t) (a := yt0) (b := yt1) (c := yt2) hP.2.1
  obtain ⟨yTr, hTr⟩ := three_atN (f := T) (g := fun x t => Value.str x t) (a := yt0) (b := yt1) (c := yt2) hP.2.2.1
  obtain ⟨yWp, hWp⟩ := three_atN (f := W) (g := fun x t => Value.str x t) (a := wt0) (b := wt1) (c := wt2) hP.1
  obtain ⟨yWq, hWq⟩ := three_atN (f := W) (g := fun x t => Value.str x t) (a := wt0) (b := wt1) (c := wt2) hP.2.1
  obtain ⟨yWr, hWr⟩ := three_atN (f := W) (g := fun x t => Value.str x t) (a := wt0) (b := wt1) (c := wt2) hP.2.2.1
  have hne : ∀ z ∈ ((a, listOf #[.int (p : Int) tp, .int (q : Int) tq, .int (r : Int) tz] ca) :: (Dt, LCg.lst [.str (T 0) yt0, .str (T 1) yt1, .str (T 2) yt2]) :: (Dw, LCg.lst [.str (W 0) wt0, .str (W 1) wt1, .str (W 2) wt2]) :: (D, listOf #[.int x0 t0, .int x1 t1, .int x2 t2, .int x3 t3] cD) :: (L + 1 + 1 + 1 + 1 + 1 + 1, o6) :: (L + 1 + 1 + 1 + 1 + 1, o5) :: (L + 1 + 1 + 1 + 1, o4) :: (L + 1 + 1 + 1, o3) :: (L + 1 + 1, o2) :: (L + 1, o1) :: tail), @Ne Nat z.1 Dh := by
    intro z hz
    simp only [List.mem_cons] at hz
    rcases hz with rfl | rfl | rfl | rfl | rfl | rfl | rfl | rfl | rfl | rfl | hz
    · exact haD
    all_goals first | exact htl z hz | (dsimp only; (first | lia | omega))
  have hp3 : p < 3 := hP.1
  have hq3 : q < 3 := hP.2.1
  have hr3 : r < 3 := hP.2.2.1
  (((refine wpAny_execs_cons ?_); (with_reducible refine any_toks ?_); (repeat' ( (fail_if_success (with_reducible show wpAny _ _ (execs _ _) _ _ _)); (first | ((refine fun (qhz : Nat.le _ _) => ?_); (try simp only [Nat.le_eq] at qhz)) | ((with_reducible show wpAny _ _ (binaryOp Operator.Add (Value.str _ _) (Value.str _ _)) _ _ _); ((refine SBL.add (hsz := ?hsz) ?_); (case hsz => first | exact cadd2 (by assumption) _ _ | exact cadd3 (by assumption) _ _ _); intro _ _ _)) | ((with_reducible show wpAny _ _ (call (Value.builtin "len") _) _ _ _); (k_here; (with_reducible show wpAny _ _ (call (Value.builtin "len") [Value.ref _]) _ _ _); (with_reducible rename News _ _ _ _ => kN); k_dflt (refine len_lst kN (by k_mem) (by assumption) (by first | assumption | rfl) ?_))) | ((with_reducible show wpAny _ _ (call (Value.builtin "len") _) _ _ _); (k_dflt (first | refine P.len_str (wfit (by assumption) _) ?_ | refine P.len_str (cfit (by assumption) _ _ _) ?_))) | ((with_reducible show wpAny _ _ (subscriptTail (Expr.Name _ _) (Expr.Constant _ _ _) (Value.ref _) (Value.int _ _)) _ _ _); (k_here; (with_reducible rename News _ _ _ _ => kN); k_dflt (first | refine item_mem (l := [_, _, _]) kN (by k_mem) (by decide) (by decide) (by exact rfl) ?_ | refine item_mem (l := [_, _, _, _]) kN (by k_mem) (by decide) (by decide) (by exact rfl) ?_))) | ((with_reducible show wpAny _ _ (subscriptTail (Expr.Name _ _) (Expr.Subscript _ _ _) (Value.ref _) (Value.int _ _)) _ _ _); (k_here; (with_reducible rename News _ _ _ _ => kN); k_dflt (refine item_mem (l := [_, _, _]) kN (by k_mem) (by (first | lia | omega)) (by (first | lia | omega)) (by assumption) ?_))) | ((with_reducible show wpAny _ _ (call (Value.ref 28) _) _ _ _); (k_here; (with_reducible show wpAny _ _ (call (Value.ref 28) _) _ _ _); refine' useNV (lev_ok _ _ _ _ _ _ _ ?q1 ?q2 ?q3 ?q4) ?kB ?kF ?kX ?kN ?kT ?kk ?kd ?ku ?_; (case q1 => first | with_reducible exact LawF.rl (by assumption) | with_reducible exact wle (by assumption) _ | with_reducible exact cle (by assumption) _ _ _ | exact cle (by assumption) _ _ _ | exact wle (by assumption) _); (case q2 => first | with_reducible exact LawF.rl (by assumption) | with_reducible exact wle (by assumption) _ | with_reducible exact cle (by assumption) _ _ _ | exact cle (by assumption) _ _ _ | exact wle (by assumption) _); (case q3 => first | exact mx1 (by assumption) | exact mx3 (by assumption) | decide); (case q4 => first | exact mx2 (by assumption) | exact mx4 (by assumption) | decide); (((case kB => k_asm); (case kF => k_asm); (case kX => k_asm); (case kN => k_asm); (case kT => k_asm); (case kk => first | assumption | exact rfl); (case kd => first | (first | lia | omega) | ((try simp only [depth_deeper]); (first | lia | omega)) | ktr_room); (case ku => first | (first | lia | omega) | ((try simp only [units_deeper]); (first | lia | omega)) | ktr_units))); ((intro qh' qtk' qt' qhtk' qF' qN')))) | ((with_reducible show wpAny _ _ (call (Value.ref 35) _) _ _ _); (k_here; (with_reducible show wpAny _ _ (call (Value.ref 35) _) _ _ _); refine' useNB (gt_okF (by assumption) (by assumption) _ _ _) ?kB ?kF ?kX ?kN ?kT ?kk ?kd ?ku ?_; (((case kB => k_asm); (case kF => k_asm); (case kX => k_asm); (case kN => k_asm); (case kT => k_asm); (case kk => first | assumption | exact rfl); (case kd => first | (first | lia | omega) | ((try simp only [depth_deeper]); (first | lia | omega)) | ktr_room); (case ku => first | (first | lia | omega) | ((try simp only [units_deeper]); (first | lia | omega)) | ktr_units))); (intro qh' qtk' qhtk' qF' qN'))) | ((with_reducible show wpAny _ _ (call (Value.ref 63) _) _ _ _); (k_here; (with_reducible show wpAny _ _ (call (Value.ref 63) _) _ _ _); refine' useNV (concat_ok _ _ _ _ _ ?q1 ?q2) ?kB ?kF ?kX ?kN ?kT ?kk ?kd ?ku ?_; (case q1 => first | exact con1 (by assumption) _ | exact con2 (by assumption) _ _); (case q2 => first | exact con1 (by assumption) _ | exact con2 (by assumption) _ _); (((case kB => k_asm); (case kF => k_asm); (case kX => k_asm); (case kN => k_asm); (case kT => k_asm); (case kk => first | assumption | exact rfl); (case kd => first | (first | lia | omega) | ((try simp only [depth_deeper]); (first | lia | omega)) | ktr_room); (case ku => first | (first | lia | omega) | ((try simp only [units_deeper]); (first | lia | omega)) | ktr_units))); ((intro qh' qtk' qt' qhtk' qF' qN')))) | ((with_reducible show wpAny _ _ (call (Value.ref 172) _) _ _ _); (k_here; (with_reducible show wpAny _ _ (call (Value.ref 172) _) _ _ _); refine' useNV (prep_okW (by assumption) _ _ _ _ _) ?kB ?kF ?kX ?kN ?kT ?kk ?kd ?ku ?_; (((case kB => k_asm); (case kF => k_asm); (case kX => k_asm); (case kN => k_asm); (case kT => k_asm); (case kk => first | assumption | exact rfl); (case kd => first | (first | lia | omega) | ((try simp only [depth_deeper]); (first | lia | omega)) | ktr_room); (case ku => first | (first | lia | omega) | ((try simp only [units_deeper]); (first | lia | omega)) | ktr_units))); ((intro qh' qtk' qt' qhtk' qF' qN')))) | ((with_reducible show wpAny _ _ (subscriptTail (Expr.Name _ _) (Expr.Name _ _) (Value.ref _) (Value.int _ _)) _ _ _); (k_here; (with_reducible rename News _ _ _ _ => kN); k_dflt (first | refine item_mem (l := [_, _, _, _]) kN (by k_mem) (by (first | lia | omega)) (by (first | lia | omega)) (by assumption) ?_ | refine item_mem (l := [_, _, _]) kN (by k_mem) (by (first | lia | omega)) (by (first | lia | omega)) (by assumption) ?_))) | (k_unfold; (try dsimp only)) | (k_end; wrow_close) | walk1 | (dsimp only; walk1) | (leave1; walk_say "STEP leave1"; try dsimp only) | fail "no step")))))
  (((try dsimp only); refine toks_ge ?_; intro qkt' qhkt'; (try dsimp only)))
  (((refine wpAny_execs_cons ?_); (with_reducible refine any_toks ?_); (repeat' ( (fail_if_success (with_reducible show wpAny _ _ (execs _ _) _ _ _)); (first | ((refine fun (qhz : Nat.le _ _) => ?_); (try simp only [Nat.le_eq] at qhz)) | ((with_reducible show wpAny _ _ (binaryOp Operator.Add (Value.str _ _) (Value.str _ _)) _ _ _); ((refine SBL.add (hsz := ?hsz) ?_); (case hsz => first | exact cadd2 (by assumption) _ _ | exact cadd3 (by assumption) _ _ _); intro _ _ _)) | ((with_reducible show wpAny _ _ (call (Value.builtin "len") _) _ _ _); (k_here; (with_reducible show wpAny _ _ (call (Value.builtin "len") [Value.ref _]) _ _ _); (with_reducible rename News _ _ _ _ => kN); k_dflt (refine len_lst kN (by k_mem) (by assumption) (by first | assumption | rfl) ?_))) | ((with_reducible show wpAny _ _ (call (Value.builtin "len") _) _ _ _); (k_dflt (first | refine P.len_str (wfit (by assumption) _) ?_ | refine P.len_str (cfit (by assumption) _ _ _) ?_))) | ((with_reducible show wpAny _ _ (subscriptTail (Expr.Name _ _) (Expr.Constant _ _ _) (Value.ref _) (Value.int _ _)) _ _ _); (k_here; (with_reducible rename News _ _ _ _ => kN); k_dflt (first | refine item_mem (l := [_, _, _]) kN (by k_mem) (by decide) (by decide) (by exact rfl) ?_ | refine item_mem (l := [_, _, _, _]) kN (by k_mem) (by decide) (by decide) (by exact rfl) ?_))) | ((with_reducible show wpAny _ _ (subscriptTail (Expr.Name _ _) (Expr.Subscript _ _ _) (Value.ref _) (Value.int _ _)) _ _ _); (k_here; (with_reducible rename News _ _ _ _ => kN); k_dflt (refine item_mem (l := [_, _, _]) kN (by k_mem) (by (first | lia | omega)) (by (first | lia | omega)) (by assumption) ?_))) | ((with_reducible show wpAny _ _ (call (Value.ref 28) _) _ _ _); (k_here; (with_reducible show wpAny _ _ (call (Value.ref 28) _) _ _ _); refine' useNV (lev_ok _ _ _ _ _ _ _ ?q1 ?q2 ?q3 ?q4) ?kB ?kF ?kX ?kN ?kT ?kk ?kd ?ku ?_; (case q1 => first | with_reducible exact LawF.rl (by assumption) | with_reducible exact wle (by assumption) _ | with_reducible exact cle (by assumption) _ _ _ | exact cle (by assumption) _ _ _ | exact wle (by assumption) _); (case q2 => first | with_reducible exact LawF.rl (by assumption) | with_reducible exact wle (by assumption) _ | with_reducible exact cle (by assumption) _ _ _ | exact cle (by assumption) _ _ _ | exact wle (by assumption) _); (case q3 => first | exact mx1 (by assumption) | exact mx3 (by assumption) | decide); (case q4 => first | exact mx2 (by assumption) | exact mx4 (by assumption) | decide); (((case kB => k_asm); (case kF => k_asm); (case kX => k_asm); (case kN => k_asm); (case kT => k_asm); (case kk => first | assumption | exact rfl); (case kd => first | (first | lia | omega) | ((try simp only [depth_deeper]); (first | lia | omega)) | ktr_room); (case ku => first | (first | lia | omega) | ((try simp only [units_deeper]); (first | lia | omega)) | ktr_units))); ((intro qh' qtk' qt' qhtk' qF' qN')))) | ((with_reducible show wpAny _ _ (call (Value.ref 35) _) _ _ _); (k_here; (with_reducible show wpAny _ _ (call (Value.ref 35) _) _ _ _); refine' useNB (gt_okF (by assumption) (by assumption) _ _ _) ?kB ?kF ?kX ?kN ?kT ?kk ?kd ?ku ?_; (((case kB => k_asm); (case kF => k_asm); (case kX => k_asm); (case kN => k_asm); (case kT => k_asm); (case kk => first | assumption | exact rfl); (case kd => first | (first | lia | omega) | ((try simp only [depth_deeper]); (first | lia | omega)) | ktr_room); (case ku => first | (first | lia | omega) | ((try simp only [units_deeper]); (first | lia | omega)) | ktr_units))); (intro qh' qtk' qhtk' qF' qN'))) | ((with_reducible show wpAny _ _ (call (Value.ref 63) _) _ _ _); (k_here; (with_reducible show wpAny _ _ (call (Value.ref 63) _) _ _ _); refine' useNV (concat_ok _ _ _ _ _ ?q1 ?q2) ?kB ?kF ?kX ?kN ?kT ?kk ?kd ?ku ?_; (case q1 => first | exact con1 (by assumption) _ | exact con2 (by assumption) _ _); (case q2 => first | exact con1 (by assumption) _ | exact con2 (by assumption) _ _); (((case kB => k_asm); (case kF => k_asm); (case kX => k_asm); (case kN => k_asm); (case kT => k_asm); (case kk => first | assumption | exact rfl); (case kd => first | (first | lia | omega) | ((try simp only [depth_deeper]); (first | lia | omega)) | ktr_room); (case ku => first | (first | lia | omega) | ((try simp only [units_deeper]); (first | lia | omega)) | ktr_units))); ((intro qh' qtk' qt' qhtk' qF' qN')))) | ((with_reducible show wpAny _ _ (call (Value.ref 172) _) _ _ _); (k_here; (with_reducible show wpAny _ _ (call (Value.ref 172) _) _ _ _); refine' useNV (prep_okW (by assumption) _ _ _ _ _) ?kB ?kF ?kX ?kN ?kT ?kk ?kd ?ku ?_; (((case kB => k_asm); (case kF => k_asm); (case kX => k_asm); (case kN => k_asm); (case kT => k_asm); (case kk => first | assumption | exact rfl); (case kd => first | (first | lia | omega) | ((try simp only [depth_deeper]); (first | lia | omega)) | ktr_room); (case ku => first | (first | lia | omega) | ((try simp only [units_deeper]); (first | lia | omega)) | ktr_units))); ((intro qh' qtk' qt' qhtk' qF' qN')))) | ((with_reducible show wpAny _ _ (subscriptTail (Expr.Name _ _) (Expr.Name _ _) (Value.ref _) (Value.int _ _)) _ _ _); (k_here; (with_reducible rename News _ _ _ _ => kN); k_dflt (first | refine item_mem (l := [_, _, _, _]) kN (by k_mem) (by (first | lia | omega)) (by (first | lia | omega)) (by assumption) ?_ | refine item_mem (l := [_, _, _]) kN (by k_mem) (by (first | lia | omega)) (by (first | lia | omega)) (by assumption) ?_))) | (k_unfold; (try dsimp only)) | (k_end; wrow_close) | walk1 | (dsimp only; walk1) | (leave1; walk_say "STEP leave1"; try dsimp only) | fail "no step")))))
  (((try dsimp only); refine toks_ge ?_; intro qkt' qhkt'; (try dsimp only)))
  (((refine wpAny_execs_cons ?_); (with_reducible refine any_toks ?_); (repeat' ( (fail_if_success (with_reducible show wpAny _ _ (execs _ _) _ _ _)); (first | ((refine fun (qhz : Nat.le _ _) => ?_); (try simp only [Nat.le_eq] at qhz)) | ((with_reducible show wpAny _ _ (binaryOp Operator.Add (Value.str _ _) (Value.str _ _)) _ _ _); ((refine SBL.add (hsz := ?hsz) ?_); (case hsz => first | exact cadd2 (by assumption) _ _ | exact cadd3 (by assumption) _ _ _); intro _ _ _)) | ((with_reducible show wpAny _ _ (call (Value.builtin "len") _) _ _ _); (k_here; (with_reducible show wpAny _ _ (call (Value.builtin "len") [Value.ref _]) _ _ _); (with_reducible rename News _ _ _ _ => kN); k_dflt (refine len_lst kN (by k_mem) (by assumption) (by first | assumption | rfl) ?_))) | ((with_reducible show wpAny _ _ (call (Value.builtin "len") _) _ _ _); (k_dflt (first | refine P.len_str (wfit (by assumption) _) ?_ | refine P.len_str (cfit (by assumption) _ _ _) ?_))) | ((with_reducible show wpAny _ _ (subscriptTail (Expr.Name _ _) (Expr.Constant _ _ _) (Value.ref _) (Value.int _ _)) _ _ _); (k_here; (with_reducible rename News _ _ _ _ => kN); k_dflt (first | refine item_mem (l := [_, _, _]) kN (by k_mem) (by decide) (by decide) (by exact rfl) ?_ | refine item_mem (l := [_, _, _, _]) kN (by k_mem) (by decide) (by decide) (by exact rfl) ?_))) | ((with_reducible show wpAny _ _ (subscriptTail (Expr.Name _ _) (Expr.Subscript _ _ _) (Value.ref _) (Value.int _ _)) _ _ _); (k_here; (with_reducible rename News _ _ _ _ => kN); k_dflt (refine item_mem (l := [_, _, _]) kN (by k_mem) (by (first | lia | omega)) (by (first | lia | omega)) (by assumption) ?_))) | ((with_reducible show wpAny _ _ (call (Value.ref 28) _) _ _ _); (k_here; (with_reducible show wpAny _ _ (call (Value.ref 28) _) _ _ _); refine' useNV (lev_ok _ _ _ _ _ _ _ ?q1 ?q2 ?q3 ?q4) ?kB ?kF ?kX ?kN ?kT ?kk ?kd ?ku ?_; (case q1 => first | with_reducible exact LawF.rl (by assumption) | with_reducible exact wle (by assumption) _ | with_reducible exact cle (by assumption) _ _ _ | exact cle (by assumption) _ _ _ | exact wle (by assumption) _); (case q2 => first | with_reducible exact LawF.rl (by assumption) | with_reducible exact wle (by assumption) _ | with_reducible exact cle (by assumption) _ _ _ | exact cle (by assumption) _ _ _ | exact wle (by assumption) _); (case q3 => first | exact mx1 (by assumption) | exact mx3 (by assumption) | decide); (case q4 => first | exact mx2 (by assumption) | exact mx4 (by assumption) | decide); (((case kB => k_asm); (case kF => k_asm); (case kX => k_asm); (case kN => k_asm); (case kT => k_asm); (case kk => first | assumption | exact rfl); (case kd => first | (first | lia | omega) | ((try simp only [depth_deeper]); (first | lia | omega)) | ktr_room); (case ku => first | (first | lia | omega) | ((try simp only [units_deeper]); (first | lia | omega)) | ktr_units))); ((intro qh' qtk' qt' qhtk' qF' qN')))) | ((with_reducible show wpAny _ _ (call (Value.ref 35) _) _ _ _); (k_here; (with_reducible show wpAny _ _ (call (Value.ref 35) _) _ _ _); refine' useNB (gt_okF (by assumption) (by assumption) _ _ _) ?kB ?kF ?kX ?kN ?kT ?kk ?kd ?ku ?_; (((case kB => k_asm); (case kF => k_asm); (case kX => k_asm); (case kN => k_asm); (case kT => k_asm); (case kk => first | assumption | exact rfl); (case kd => first | (first | lia | omega) | ((try simp only [depth_deeper]); (first | lia | omega)) | ktr_room); (case ku => first | (first | lia | omega) | ((try simp only [units_deeper]); (first | lia | omega)) | ktr_units))); (intro qh' qtk' qhtk' qF' qN'))) | ((with_reducible show wpAny _ _ (call (Value.ref 63) _) _ _ _); (k_here; (with_reducible show wpAny _ _ (call (Value.ref 63) _) _ _ _); refine' useNV (concat_ok _ _ _ _ _ ?q1 ?q2) ?kB ?kF ?kX ?kN ?kT ?kk ?kd ?ku ?_; (case q1 => first | exact con1 (by assumption) _ | exact con2 (by assumption) _ _); (case q2 => first | exact con1 (by assumption) _ | exact con2 (by assumption) _ _); (((case kB => k_asm); (case kF => k_asm); (case kX => k_asm); (case kN => k_asm); (case kT => k_asm); (case kk => first | assumption | exact rfl); (case kd => first | (first | lia | omega) | ((try simp only [depth_deeper]); (first | lia | omega)) | ktr_room); (case ku => first | (first | lia | omega) | ((try simp only [units_deeper]); (first | lia | omega)) | ktr_units))); ((intro qh' qtk' qt' qhtk' qF' qN')))) | ((with_reducible show wpAny _ _ (call (Value.ref 172) _) _ _ _); (k_here; (with_reducible show wpAny _ _ (call (Value.ref 172) _) _ _ _); refine' useNV (prep_okW (by assumption) _ _ _ _ _) ?kB ?kF ?kX ?kN ?kT ?kk ?kd ?ku ?_; (((case kB => k_asm); (case kF => k_asm); (case kX => k_asm); (case kN => k_asm); (case kT => k_asm); (case kk => first | assumption | exact rfl); (case kd => first | (first | lia | omega) | ((try simp only [depth_deeper]); (first | lia | omega)) | ktr_room); (case ku => first | (first | lia | omega) | ((try simp only [units_deeper]); (first | lia | omega)) | ktr_units))); ((intro qh' qtk' qt' qhtk' qF' qN')))) | ((with_reducible show wpAny _ _ (subscriptTail (Expr.Name _ _) (Expr.Name _ _) (Value.ref _) (Value.int _ _)) _ _ _); (k_here; (with_reducible rename News _ _ _ _ => kN); k_dflt (first | refine item_mem (l := [_, _, _, _]) kN (by k_mem) (by (first | lia | omega)) (by (first | lia | omega)) (by assumption) ?_ | refine item_mem (l := [_, _, _]) kN (by k_mem) (by (first | lia | omega)) (by (first | lia | omega)) (by assumption) ?_))) | (k_unfold; (try dsimp only)) | (k_end; wrow_close) | walk1 | (dsimp only; walk1) | (leave1; walk_say "STEP leave1"; try dsimp only) | fail "no step")))))
  · exact absurd (by assumption : (cat3 W p q r != W p ++ W q ++ W r) = true) (by simp [cat3])
  (repeat' ( (fail_if_success (with_reducible show wpAny _ _ (execs (_ :: _) _) _ _ _)); (first | ((refine fun (qhz : Nat.le _ _) => ?_); (try simp only [Nat.le_eq] at qhz)) | ((with_reducible show wpAny _ _ (binaryOp Operator.Add (Value.str _ _) (Value.str _ _)) _ _ _); ((refine SBL.add (hsz := ?hsz) ?_); (case hsz => first | exact cadd2 (by assumption) _ _ | exact cadd3 (by assumption) _ _ _); intro _ _ _)) | ((with_reducible show wpAny _ _ (call (Value.builtin "len") _) _ _ _); (k_here; (with_reducible show wpAny _ _ (call (Value.builtin "len") [Value.ref _]) _ _ _); (with_reducible rename News _ _ _ _ => kN); k_dflt (refine len_lst kN (by k_mem) (by assumption) (by first | assumption | rfl) ?_))) | ((with_reducible show wpAny _ _ (call (Value.builtin "len") _) _ _ _); (k_dflt (first | refine P.len_str (wfit (by assumption) _) ?_ | refine P.len_str (cfit (by assumption) _ _ _) ?_))) | ((with_reducible show wpAny _ _ (subscriptTail (Expr.Name _ _) (Expr.Constant _ _ _) (Value.ref _) (Value.int _ _)) _ _ _); (k_here; (with_reducible rename News _ _ _ _ => kN); k_dflt (first | refine item_mem (l := [_, _, _]) kN (by k_mem) (by decide) (by decide) (by exact rfl) ?_ | refine item_mem (l := [_, _, _, _]) kN (by k_mem) (by decide) (by decide) (by exact rfl) ?_))) | ((with_reducible show wpAny _ _ (subscriptTail (Expr.Name _ _) (Expr.Subscript _ _ _) (Value.ref _) (Value.int _ _)) _ _ _); (k_here; (with_reducible rename News _ _ _ _ => kN); k_dflt (refine item_mem (l := [_, _, _]) kN (by k_mem) (by (first | lia | omega)) (by (first | lia | omega)) (by assumption) ?_))) | ((with_reducible show wpAny _ _ (call (Value.ref 28) _) _ _ _); (k_here; (with_reducible show wpAny _ _ (call (Value.ref 28) _) _ _ _); refine' useNV (lev_ok _ _ _ _ _ _ _ ?q1 ?q2 ?q3 ?q4) ?kB ?kF ?kX ?kN ?kT ?kk ?kd ?ku ?_; (case q1 => first | with_reducible exact LawF.rl (by assumption) | with_reducible exact wle (by assumption) _ | with_reducible exact cle (by assumption) _ _ _ | exact cle (by assumption) _ _ _ | exact wle (by assumption) _); (case q2 => first | with_reducible exact LawF.rl (by assumption) | with_reducible exact wle (by assumption) _ | with_reducible exact cle (by assumption) _ _ _ | exact cle (by assumption) _ _ _ | exact wle (by assumption) _); (case q3 => first | exact mx1 (by assumption) | exact mx3 (by assumption) | decide); (case q4 => first | exact mx2 (by assumption) | exact mx4 (by assumption) | decide); (((case kB => k_asm); (case kF => k_asm); (case kX => k_asm); (case kN => k_asm); (case kT => k_asm); (case kk => first | assumption | exact rfl); (case kd => first | (first | lia | omega) | ((try simp only [depth_deeper]); (first | lia | omega)) | ktr_room); (case ku => first | (first | lia | omega) | ((try simp only [units_deeper]); (first | lia | omega)) | ktr_units))); ((intro qh' qtk' qt' qhtk' qF' qN')))) | ((with_reducible show wpAny _ _ (call (Value.ref 35) _) _ _ _); (k_here; (with_reducible show wpAny _ _ (call (Value.ref 35) _) _ _ _); refine' useNB (gt_okF (by assumption) (by assumption) _ _ _) ?kB ?kF ?kX ?kN ?kT ?kk ?kd ?ku ?_; (((case kB => k_asm); (case kF => k_asm); (case kX => k_asm); (case kN => k_asm); (case kT => k_asm); (case kk => first | assumption | exact rfl); (case kd => first | (first | lia | omega) | ((try simp only [depth_deeper]); (first | lia | omega)) | ktr_room); (case ku => first | (first | lia | omega) | ((try simp only [units_deeper]); (first | lia | omega)) | ktr_units))); (intro qh' qtk' qhtk' qF' qN'))) | ((with_reducible show wpAny _ _ (call (Value.ref 63) _) _ _ _); (k_here; (with_reducible show wpAny _ _ (call (Value.ref 63) _) _ _ _); refine' useNV (concat_ok _ _ _ _ _ ?q1 ?q2) ?kB ?kF ?kX ?kN ?kT ?kk ?kd ?ku ?_; (case q1 => first | exact con1 (by assumption) _ | exact con2 (by assumption) _ _); (case q2 => first | exact con1 (by assumption) _ | exact con2 (by assumption) _ _); (((case kB => k_asm); (case kF => k_asm); (case kX => k_asm); (case kN => k_asm); (case kT => k_asm); (case kk => first | assumption | exact rfl); (case kd => first | (first | lia | omega) | ((try simp only [depth_deeper]); (first | lia | omega)) | ktr_room); (case ku => first | (first | lia | omega) | ((try simp only [units_deeper]); (first | lia | omega)) | ktr_units))); ((intro qh' qtk' qt' qhtk' qF' qN')))) | ((with_reducible show wpAny _ _ (call (Value.ref 172) _) _ _ _); (k_here; (with_reducible show wpAny _ _ (call (Value.ref 172) _) _ _ _); refine' useNV (prep_okW (by assumption) _ _ _ _ _) ?kB ?kF ?kX ?kN ?kT ?kk ?kd ?ku ?_; (((case kB => k_asm); (case kF => k_asm); (case kX => k_asm); (case kN => k_asm); (case kT => k_asm); (case kk => first | assumption | exact rfl); (case kd => first | (first | lia | omega) | ((try simp only [depth_deeper]); (first | lia | omega)) | ktr_room); (case ku => first | (first | lia | omega) | ((try simp only [units_deeper]); (first | lia | omega)) | ktr_units))); ((intro qh' qtk' qt' qhtk' qF' qN')))) | ((with_reducible show wpAny _ _ (subscriptTail (Expr.Name _ _) (Expr.Name _ _) (Value.ref _) (Value.int _ _)) _ _ _); (k_here; (with_reducible rename News _ _ _ _ => kN); k_dflt (first | refine item_mem (l := [_, _, _, _]) kN (by k_mem) (by (first | lia | omega)) (by (first | lia | omega)) (by assumption) ?_ | refine item_mem (l := [_, _, _]) kN (by k_mem) (by (first | lia | omega)) (by (first | lia | omega)) (by assumption) ?_))) | (k_unfold; (try dsimp only)) | (k_end; wrow_close) | walk1 | (dsimp only; walk1) | (leave1; walk_say "STEP leave1"; try dsimp only) | fail "no step")))
  (((try dsimp only); refine toks_ge ?_; intro qkt' qhkt'; (try dsimp only)))
  refine wpAny_execs_cons ?_
  (rename Fr _ _ _ _ => kF)
  (rename News _ _ _ _ => kN)
  refine cut_app (vs := vs) (c := c) (D := Dh) (x := H p q r) kF kN ?br ?go
  case br =>
    (repeat' ( (fail_if_success (with_reducible show wpAny _ _ (call (Value.builtin "list.append") _) _ _ _)); (first | ((refine fun (qhz : Nat.le _ _) => ?_); (try simp only [Nat.le_eq] at qhz)) | ((with_reducible show wpAny _ _ (binaryOp Operator.Add (Value.str _ _) (Value.str _ _)) _ _ _); ((refine SBL.add (hsz := ?hsz) ?_); (case hsz => first | exact cadd2 (by assumption) _ _ | exact cadd3 (by assumption) _ _ _); intro _ _ _)) | ((with_reducible show wpAny _ _ (call (Value.builtin "len") _) _ _ _); (k_here; (with_reducible show wpAny _ _ (call (Value.builtin "len") [Value.ref _]) _ _ _); (with_reducible rename News _ _ _ _ => kN); k_dflt (refine len_lst kN (by k_mem) (by assumption) (by first | assumption | rfl) ?_))) | ((with_reducible show wpAny _ _ (call (Value.builtin "len") _) _ _ _); (k_dflt (first | refine P.len_str (wfit (by assumption) _) ?_ | refine P.len_str (cfit (by assumption) _ _ _) ?_))) | ((with_reducible show wpAny _ _ (subscriptTail (Expr.Name _ _) (Expr.Constant _ _ _) (Value.ref _) (Value.int _ _)) _ _ _); (k_here; (with_reducible rename News _ _ _ _ => kN); k_dflt (first | refine item_mem (l := [_, _, _]) kN (by k_mem) (by decide) (by decide) (by exact rfl) ?_ | refine item_mem (l := [_, _, _, _]) kN (by k_mem) (by decide) (by decide) (by exact rfl) ?_))) | ((with_reducible show wpAny _ _ (subscriptTail (Expr.Name _ _) (Expr.Subscript _ _ _) (Value.ref _) (Value.int _ _)) _ _ _); (k_here; (with_reducible rename News _ _ _ _ => kN); k_dflt (refine item_mem (l := [_, _, _]) kN (by k_mem) (by (first | lia | omega)) (by (first | lia | omega)) (by assumption) ?_))) | ((with_reducible show wpAny _ _ (call (Value.ref 28) _) _ _ _); (k_here; (with_reducible show wpAny _ _ (call (Value.ref 28) _) _ _ _); refine' useNV (lev_ok _ _ _ _ _ _ _ ?q1 ?q2 ?q3 ?q4) ?kB ?kF ?kX ?kN ?kT ?kk ?kd ?ku ?_; (case q1 => first | with_reducible exact LawF.rl (by assumption) | with_reducible exact wle (by assumption) _ | with_reducible exact cle (by assumption) _ _ _ | exact cle (by assumption) _ _ _ | exact wle (by assumption) _); (case q2 => first | with_reducible exact LawF.rl (by assumption) | with_reducible exact wle (by assumption) _ | with_reducible exact cle (by assumption) _ _ _ | exact cle (by assumption) _ _ _ | exact wle (by assumption) _); (case q3 => first | exact mx1 (by assumption) | exact mx3 (by assumption) | decide); (case q4 => first | exact mx2 (by assumption) | exact mx4 (by assumption) | decide); (((case kB => k_asm); (case kF => k_asm); (case kX => k_asm); (case kN => k_asm); (case kT => k_asm); (case kk => first | assumption | exact rfl); (case kd => first | (first | lia | omega) | ((try simp only [depth_deeper]); (first | lia | omega)) | ktr_room); (case ku => first | (first | lia | omega) | ((try simp only [units_deeper]); (first | lia | omega)) | ktr_units))); ((intro qh' qtk' qt' qhtk' qF' qN')))) | ((with_reducible show wpAny _ _ (call (Value.ref 35) _) _ _ _); (k_here; (with_reducible show wpAny _ _ (call (Value.ref 35) _) _ _ _); refine' useNB (gt_okF (by assumption) (by assumption) _ _ _) ?kB ?kF ?kX ?kN ?kT ?kk ?kd ?ku ?_; (((case kB => k_asm); (case kF => k_asm); (case kX => k_asm); (case kN => k_asm); (case kT => k_asm); (case kk => first | assumption | exact rfl); (case kd => first | (first | lia | omega) | ((try simp only [depth_deeper]); (first | lia | omega)) | ktr_room); (case ku => first | (first | lia | omega) | ((try simp only [units_deeper]); (first | lia | omega)) | ktr_units))); (intro qh' qtk' qhtk' qF' qN'))) | ((with_reducible show wpAny _ _ (call (Value.ref 63) _) _ _ _); (k_here; (with_reducible show wpAny _ _ (call (Value.ref 63) _) _ _ _); refine' useNV (concat_ok _ _ _ _ _ ?q1 ?q2) ?kB ?kF ?kX ?kN ?kT ?kk ?kd ?ku ?_; (case q1 => first | exact con1 (by assumption) _ | exact con2 (by assumption) _ _); (case q2 => first | exact con1 (by assumption) _ | exact con2 (by assumption) _ _); (((case kB => k_asm); (case kF => k_asm); (case kX => k_asm); (case kN => k_asm); (case kT => k_asm); (case kk => first | assumption | exact rfl); (case kd => first | (first | lia | omega) | ((try simp only [depth_deeper]); (first | lia | omega)) | ktr_room); (case ku => first | (first | lia | omega) | ((try simp only [units_deeper]); (first | lia | omega)) | ktr_units))); ((intro qh' qtk' qt' qhtk' qF' qN')))) | ((with_reducible show wpAny _ _ (call (Value.ref 172) _) _ _ _); (k_here; (with_reducible show wpAny _ _ (call (Value.ref 172) _) _ _ _); refine' useNV (prep_okW (by assumption) _ _ _ _ _) ?kB ?kF ?kX ?kN ?kT ?kk ?kd ?ku ?_; (((case kB => k_asm); (case kF => k_asm); (case kX => k_asm); (case kN => k_asm); (case kT => k_asm); (case kk => first | assumption | exact rfl); (case kd => first | (first | lia | omega) | ((try simp only [depth_deeper]); (first | lia | omega)) | ktr_room); (case ku => first | (first | lia | omega) | ((try simp only [units_deeper]); (first | lia | omega)) | ktr_units))); ((intro qh' qtk' qt' qhtk' qF' qN')))) | ((with_reducible show wpAny _ _ (subscriptTail (Expr.Name _ _) (Expr.Name _ _) (Value.ref _) (Value.int _ _)) _ _ _); (k_here; (with_reducible rename News _ _ _ _ => kN); k_dflt (first | refine item_mem (l := [_, _, _, _]) kN (by k_mem) (by (first | lia | omega)) (by (first | lia | omega)) (by assumption) ?_ | refine item_mem (l := [_, _, _]) kN (by k_mem) (by (first | lia | omega)) (by (first | lia | omega)) (by assumption) ?_))) | (k_unfold; (try dsimp only)) | (k_end; wrow_close) | walk1 | (dsimp only; walk1) | (leave1; walk_say "STEP leave1"; try dsimp only) | fail "no step")))
    · (rename Fr _ _ _ _ => kF)
      (rename News _ _ _ _ => kN)
      refine append_head kF kN hne hvl ?_
      clear kF kN
      intro h' F N
      (repeat' ( (fail_if_success (with_reducible show wpAny _ _ (execs (_ :: _) _) _ _ _)); (first | ((refine fun (qhz : Nat.le _ _) => ?_); (try simp only [Nat.le_eq] at qhz)) | ((with_reducible show wpAny _ _ (binaryOp Operator.Add (Value.str _ _) (Value.str _ _)) _ _ _); ((refine SBL.add (hsz := ?hsz) ?_); (case hsz => first | exact cadd2 (by assumption) _ _ | exact cadd3 (by assumption) _ _ _); intro _ _ _)) | ((with_reducible show wpAny _ _ (call (Value.builtin "len") _) _ _ _); (k_here; (with_reducible show wpAny _ _ (call (Value.builtin "len") [Value.ref _]) _ _ _); (with_reducible rename News _ _ _ _ => kN); k_dflt (refine len_lst kN (by k_mem) (by assumption) (by first | assumption | rfl) ?_))) | ((with_reducible show wpAny _ _ (call (Value.builtin "len") _) _ _ _); (k_dflt (first | refine P.len_str (wfit (by assumption) _) ?_ | refine P.len_str (cfit (by assumption) _ _ _) ?_))) | ((with_reducible show wpAny _ _ (subscriptTail (Expr.Name _ _) (Expr.Constant _ _ _) (Value.ref _) (Value.int _ _)) _ _ _); (k_here; (with_reducible rename News _ _ _ _ => kN); k_dflt (first | refine item_mem (l := [_, _, _]) kN (by k_mem) (by decide) (by decide) (by exact rfl) ?_ | refine item_mem (l := [_, _, _, _]) kN (by k_mem) (by decide) (by decide) (by exact rfl) ?_))) | ((with_reducible show wpAny _ _ (subscriptTail (Expr.Name _ _) (Expr.Subscript _ _ _) (Value.ref _) (Value.int _ _)) _ _ _); (k_here; (with_reducible rename News _ _ _ _ => kN); k_dflt (refine item_mem (l := [_, _, _]) kN (by k_mem) (by (first | lia | omega)) (by (first | lia | omega)) (by assumption) ?_))) | ((with_reducible show wpAny _ _ (call (Value.ref 28) _) _ _ _); (k_here; (with_reducible show wpAny _ _ (call (Value.ref 28) _) _ _ _); refine' useNV (lev_ok _ _ _ _ _ _ _ ?q1 ?q2 ?q3 ?q4) ?kB ?kF ?kX ?kN ?kT ?kk ?kd ?ku ?_; (case q1 => first | with_reducible exact LawF.rl (by assumption) | with_reducible exact wle (by assumption) _ | with_reducible exact cle (by assumption) _ _ _ | exact cle (by assumption) _ _ _ | exact wle (by assumption) _); (case q2 => first | with_reducible exact LawF.rl (by assumption) | with_reducible exact wle (by assumption) _ | with_reducible exact cle (by assumption) _ _ _ | exact cle (by assumption) _ _ _ | exact wle (by assumption) _); (case q3 => first | exact mx1 (by assumption) | exact mx3 (by assumption) | decide); (case q4 => first | exact mx2 (by assumption) | exact mx4 (by assumption) | decide); (((case kB => k_asm); (case kF => k_asm); (case kX => k_asm); (case kN => k_asm); (case kT => k_asm); (case kk => first | assumption | exact rfl); (case kd => first | (first | lia | omega) | ((try simp only [depth_deeper]); (first | lia | omega)) | ktr_room); (case ku => first | (first | lia | omega) | ((try simp only [units_deeper]); (first | lia | omega)) | ktr_units))); ((intro qh' qtk' qt' qhtk' qF' qN')))) | ((with_reducible show wpAny _ _ (call (Value.ref 35) _) _ _ _); (k_here; (with_reducible show wpAny _ _ (call (Value.ref 35) _) _ _ _); refine' useNB (gt_okF (by assumption) (by assumption) _ _ _) ?kB ?kF ?kX ?kN ?kT ?kk ?kd ?ku ?_; (((case kB => k_asm); (case kF => k_asm); (case kX => k_asm); (case kN => k_asm); (case kT => k_asm); (case kk => first | assumption | exact rfl); (case kd => first | (first | lia | omega) | ((try simp only [depth_deeper]); (first | lia | omega)) | ktr_room); (case ku => first | (first | lia | omega) | ((try simp only [units_deeper]); (first | lia | omega)) | ktr_units))); (intro qh' qtk' qhtk' qF' qN'))) | ((with_reducible show wpAny _ _ (call (Value.ref 63) _) _ _ _); (k_here; (with_reducible show wpAny _ _ (call (Value.ref 63) _) _ _ _); refine' useNV (concat_ok _ _ _ _ _ ?q1 ?q2) ?kB ?kF ?kX ?kN ?kT ?kk ?kd ?ku ?_; (case q1 => first | exact con1 (by assumption) _ | exact con2 (by assumption) _ _); (case q2 => first | exact con1 (by assumption) _ | exact con2 (by assumption) _ _); (((case kB => k_asm); (case kF => k_asm); (case kX => k_asm); (case kN => k_asm); (case kT => k_asm); (case kk => first | assumption | exact rfl); (case kd => first | (first | lia | omega) | ((try simp only [depth_deeper]); (first | lia | omega)) | ktr_room); (case ku => first | (first | lia | omega) | ((try simp only [units_deeper]); (first | lia | omega)) | ktr_units))); ((intro qh' qtk' qt' qhtk' qF' qN')))) | ((with_reducible show wpAny _ _ (call (Value.ref 172) _) _ _ _); (k_here; (with_reducible show wpAny _ _ (call (Value.ref 172) _) _ _ _); refine' useNV (prep_okW (by assumption) _ _ _ _ _) ?kB ?kF ?kX ?kN ?kT ?kk ?kd ?ku ?_; (((case kB => k_asm); (case kF => k_asm); (case kX => k_asm); (case kN => k_asm); (case kT => k_asm); (case kk => first | assumption | exact rfl); (case kd => first | (first | lia | omega) | ((try simp only [depth_deeper]); (first | lia | omega)) | ktr_room); (case ku => first | (first | lia | omega) | ((try simp only [units_deeper]); (first | lia | omega)) | ktr_units))); ((intro qh' qtk' qt' qhtk' qF' qN')))) | ((with_reducible show wpAny _ _ (subscriptTail (Expr.Name _ _) (Expr.Name _ _) (Value.ref _) (Value.int _ _)) _ _ _); (k_here; (with_reducible rename News _ _ _ _ => kN); k_dflt (first | refine item_mem (l := [_, _, _, _]) kN (by k_mem) (by (first | lia | omega)) (by (first | lia | omega)) (by assumption) ?_ | refine item_mem (l := [_, _, _]) kN (by k_mem) (by (first | lia | omega)) (by (first | lia | omega)) (by assumption) ?_))) | (k_unfold; (try dsimp only)) | (k_end; wrow_close) | walk1 | (dsimp only; walk1) | (leave1; walk_say "STEP leave1"; try dsimp only) | fail "no step")))
      (rename Fr _ _ _ _ => kF)
      (rename News _ _ _ _ => kN)
      rw [LF.l1 p q r hP] at kN
      refine ⟨_, _, _, rfl, ?_, ?_, kF, kN⟩
      · refine Nat.le_trans ?_ (by assumption)
        (try dsimp only); (first | lia | omega)
      · (try dsimp only); (first | lia | omega)
    · (rename Fr _ _ _ _ => kF)
      (rename News _ _ _ _ => kN)
      refine append_head kF kN hne hvl ?_
      clear kF kN
      intro h' F N
      (repeat' ( (fail_if_success (with_reducible show wpAny _ _ (execs (_ :: _) _) _ _ _)); (first | ((refine fun (qhz : Nat.le _ _) => ?_); (try simp only [Nat.le_eq] at qhz)) | ((with_reducible show wpAny _ _ (binaryOp Operator.Add (Value.str _ _) (Value.str _ _)) _ _ _); ((refine SBL.add (hsz := ?hsz) ?_); (case hsz => first | exact cadd2 (by assumption) _ _ | exact cadd3 (by assumption) _ _ _); intro _ _ _)) | ((with_reducible show wpAny _ _ (call (Value.builtin "len") _) _ _ _); (k_here; (with_reducible show wpAny _ _ (call (Value.builtin "len") [Value.ref _]) _ _ _); (with_reducible rename News _ _ _ _ => kN); k_dflt (refine len_lst kN (by k_mem) (by assumption) (by first | assumption | rfl) ?_))) | ((with_reducible show wpAny _ _ (call (Value.builtin "len") _) _ _ _); (k_dflt (first | refine P.len_str (wfit (by assumption) _) ?_ | refine P.len_str (cfit (by assumption) _ _ _) ?_))) | ((with_reducible show wpAny _ _ (subscriptTail (Expr.Name _ _) (Expr.Constant _ _ _) (Value.ref _) (Value.int _ _)) _ _ _); (k_here; (with_reducible rename News _ _ _ _ => kN); k_dflt (first | refine item_mem (l := [_, _, _]) kN (by k_mem) (by decide) (by decide) (by exact rfl) ?_ | refine item_mem (l := [_, _, _, _]) kN (by k_mem) (by decide) (by decide) (by exact rfl) ?_))) | ((with_reducible show wpAny _ _ (subscriptTail (Expr.Name _ _) (Expr.Subscript _ _ _) (Value.ref _) (Value.int _ _)) _ _ _); (k_here; (with_reducible rename News _ _ _ _ => kN); k_dflt (refine item_mem (l := [_, _, _]) kN (by k_mem) (by (first | lia | omega)) (by (first | lia | omega)) (by assumption) ?_))) | ((with_reducible show wpAny _ _ (call (Value.ref 28) _) _ _ _); (k_here; (with_reducible show wpAny _ _ (call (Value.ref 28) _) _ _ _); refine' useNV (lev_ok _ _ _ _ _ _ _ ?q1 ?q2 ?q3 ?q4) ?kB ?kF ?kX ?kN ?kT ?kk ?kd ?ku ?_; (case q1 => first | with_reducible exact LawF.rl (by assumption) | with_reducible exact wle (by assumption) _ | with_reducible exact cle (by assumption) _ _ _ | exact cle (by assumption) _ _ _ | exact wle (by assumption) _); (case q2 => first | with_reducible exact LawF.rl (by assumption) | with_reducible exact wle (by assumption) _ | with_reducible exact cle (by assumption) _ _ _ | exact cle (by assumption) _ _ _ | exact wle (by assumption) _); (case q3 => first | exact mx1 (by assumption) | exact mx3 (by assumption) | decide); (case q4 => first | exact mx2 (by assumption) | exact mx4 (by assumption) | decide); (((case kB => k_asm); (case kF => k_asm); (case kX => k_asm); (case kN => k_asm); (case kT => k_asm); (case kk => first | assumption | exact rfl); (case kd => first | (first | lia | omega) | ((try simp only [depth_deeper]); (first | lia | omega)) | ktr_room); (case ku => first | (first | lia | omega) | ((try simp only [units_deeper]); (first | lia | omega)) | ktr_units))); ((intro qh' qtk' qt' qhtk' qF' qN')))) | ((with_reducible show wpAny _ _ (call (Value.ref 35) _) _ _ _); (k_here; (with_reducible show wpAny _ _ (call (Value.ref 35) _) _ _ _); refine' useNB (gt_okF (by assumption) (by assumption) _ _ _) ?kB ?kF ?kX ?kN ?kT ?kk ?kd ?ku ?_; (((case kB => k_asm); (case kF => k_asm); (case kX => k_asm); (case kN => k_asm); (case kT => k_asm); (case kk => first | assumption | exact rfl); (case kd => first | (first | lia | omega) | ((try simp only [depth_deeper]); (first | lia | omega)) | ktr_room); (case ku => first | (first | lia | omega) | ((try simp only [units_deeper]); (first | lia | omega)) | ktr_units))); (intro qh' qtk' qhtk' qF' qN'))) | ((with_reducible show wpAny _ _ (call (Value.ref 63) _) _ _ _); (k_here; (with_reducible show wpAny _ _ (call (Value.ref 63) _) _ _ _); refine' useNV (concat_ok _ _ _ _ _ ?q1 ?q2) ?kB ?kF ?kX ?kN ?kT ?kk ?kd ?ku ?_; (case q1 => first | exact con1 (by assumption) _ | exact con2 (by assumption) _ _); (case q2 => first | exact con1 (by assumption) _ | exact con2 (by assumption) _ _); (((case kB => k_asm); (case kF => k_asm); (case kX => k_asm); (case kN => k_asm); (case kT => k_asm); (case kk => first | assumption | exact rfl); (case kd => first | (first | lia | omega) | ((try simp only [depth_deeper]); (first | lia | omega)) | ktr_room); (case ku => first | (first | lia | omega) | ((try simp only [units_deeper]); (first | lia | omega)) | ktr_units))); ((intro qh' qtk' qt' qhtk' qF' qN')))) | ((with_reducible show wpAny _ _ (call (Value.ref 172) _) _ _ _); (k_here; (with_reducible show wpAny _ _ (call (Value.ref 172) _) _ _ _); refine' useNV (prep_okW (by assumption) _ _ _ _ _) ?kB ?kF ?kX ?kN ?kT ?kk ?kd ?ku ?_; (((case kB => k_asm); (case kF => k_asm); (case kX => k_asm); (case kN => k_asm); (case kT => k_asm); (case kk => first | assumption | exact rfl); (case kd => first | (first | lia | omega) | ((try simp only [depth_deeper]); (first | lia | omega)) | ktr_room); (case ku => first | (first | lia | omega) | ((try simp only [units_deeper]); (first | lia | omega)) | ktr_units))); ((intro qh' qtk' qt' qhtk' qF' qN')))) | ((with_reducible show wpAny _ _ (subscriptTail (Expr.Name _ _) (Expr.Name _ _) (Value.ref _) (Value.int _ _)) _ _ _); (k_here; (with_reducible rename News _ _ _ _ => kN); k_dflt (first | refine item_mem (l := [_, _, _, _]) kN (by k_mem) (by (first | lia | omega)) (by (first | lia | omega)) (by assumption) ?_ | refine item_mem (l := [_, _, _]) kN (by k_mem) (by (first | lia | omega)) (by (first | lia | omega)) (by assumption) ?_))) | (k_unfold; (try dsimp only)) | (k_end; wrow_close) | walk1 | (dsimp only; walk1) | (leave1; walk_say "STEP leave1"; try dsimp only) | fail "no step")))
      (rename Fr _ _ _ _ => kF)
      (rename News _ _ _ _ => kN)
      rw [LF.l2 p q r hP] at kN
      refine ⟨_, _, _, rfl, ?_, ?_, kF, kN⟩
      · refine Nat.le_trans ?_ (by assumption)
        (try dsimp only); (first | lia | omega)
      · (try dsimp only); (first | lia | omega)
  case go =>
    clear kF kN
    intro t h₁ tk₁ ht1 ht2 F1 N1
    (try dsimp only)
    (((try dsimp only); refine toks_ge ?_; intro qkt' qhkt'; (try dsimp only)))
    (((refine wpAny_execs_cons ?_); (with_reducible refine any_toks ?_); (repeat' ( (fail_if_success (with_reducible show wpAny _ _ (execs _ _) _ _ _)); (first | ((refine fun (qhz : Nat.le _ _) => ?_); (try simp only [Nat.le_eq] at qhz)) | ((with_reducible show wpAny _ _ (binaryOp Operator.Add (Value.str _ _) (Value.str _ _)) _ _ _); ((refine SBL.add (hsz := ?hsz) ?_); (case hsz => first | exact cadd2 (by assumption) _ _ | exact cadd3 (by assumption) _ _ _); intro _ _ _)) | ((with_reducible show wpAny _ _ (call (Value.builtin "len") _) _ _ _); (k_here; (with_reducible show wpAny _ _ (call (Value.builtin "len") [Value.ref _]) _ _ _); (with_reducible rename News _ _ _ _ => kN); k_dflt (refine len_lst kN (by k_mem) (by assumption) (by first | assumption | rfl) ?_))) | ((with_reducible show wpAny _ _ (call (Value.builtin "len") _) _ _ _); (k_dflt (first | refine P.len_str (wfit (by assumption) _) ?_ | refine P.len_str (cfit (by assumption) _ _ _) ?_))) | ((with_reducible show wpAny _ _ (subscriptTail (Expr.Name _ _) (Expr.Constant _ _ _) (Value.ref _) (Value.int _ _)) _ _ _); (k_here; (with_reducible rename News _ _ _ _ => kN); k_dflt (first | refine item_mem (l := [_, _, _]) kN (by k_mem) (by decide) (by decide) (by exact rfl) ?_ | refine item_mem (l := [_, _, _, _]) kN (by k_mem) (by decide) (by decide) (by exact rfl) ?_))) | ((with_reducible show wpAny _ _ (subscriptTail (Expr.Name _ _) (Expr.Subscript _ _ _) (Value.ref _) (Value.int _ _)) _ _ _); (k_here; (with_reducible rename News _ _ _ _ => kN); k_dflt (refine item_mem (l := [_, _, _]) kN (by k_mem) (by (first | lia | omega)) (by (first | lia | omega)) (by assumption) ?_))) | ((with_reducible show wpAny _ _ (call (Value.ref 28) _) _ _ _); (k_here; (with_reducible show wpAny _ _ (call (Value.ref 28) _) _ _ _); refine' useNV (lev_ok _ _ _ _ _ _ _ ?q1 ?q2 ?q3 ?q4) ?kB ?kF ?kX ?kN ?kT ?kk ?kd ?ku ?_; (case q1 => first | with_reducible exact LawF.rl (by assumption) | with_reducible exact wle (by assumption) _ | with_reducible exact cle (by assumption) _ _ _ | exact cle (by assumption) _ _ _ | exact wle (by assumption) _); (case q2 => first | with_reducible exact LawF.rl (by assumption) | with_reducible exact wle (by assumption) _ | with_reducible exact cle (by assumption) _ _ _ | exact cle (by assumption) _ _ _ | exact wle (by assumption) _); (case q3 => first | exact mx1 (by assumption) | exact mx3 (by assumption) | decide); (case q4 => first | exact mx2 (by assumption) | exact mx4 (by assumption) | decide); (((case kB => k_asm); (case kF => k_asm); (case kX => k_asm); (case kN => k_asm); (case kT => k_asm); (case kk => first | assumption | exact rfl); (case kd => first | (first | lia | omega) | ((try simp only [depth_deeper]); (first | lia | omega)) | ktr_room); (case ku => first | (first | lia | omega) | ((try simp only [units_deeper]); (first | lia | omega)) | ktr_units))); ((intro qh' qtk' qt' qhtk' qF' qN')))) | ((with_reducible show wpAny _ _ (call (Value.ref 35) _) _ _ _); (k_here; (with_reducible show wpAny _ _ (call (Value.ref 35) _) _ _ _); refine' useNB (gt_okF (by assumption) (by assumption) _ _ _) ?kB ?kF ?kX ?kN ?kT ?kk ?kd ?ku ?_; (((case kB => k_asm); (case kF => k_asm); (case kX => k_asm); (case kN => k_asm); (case kT => k_asm); (case kk => first | assumption | exact rfl); (case kd => first | (first | lia | omega) | ((try simp only [depth_deeper]); (first | lia | omega)) | ktr_room); (case ku => first | (first | lia | omega) | ((try simp only [units_deeper]); (first | lia | omega)) | ktr_units))); (intro qh' qtk' qhtk' qF' qN'))) | ((with_reducible show wpAny _ _ (call (Value.ref 63) _) _ _ _); (k_here; (with_reducible show wpAny _ _ (call (Value.ref 63) _) _ _ _); refine' useNV (concat_ok _ _ _ _ _ ?q1 ?q2) ?kB ?kF ?kX ?kN ?kT ?kk ?kd ?ku ?_; (case q1 => first | exact con1 (by assumption) _ | exact con2 (by assumption) _ _); (case q2 => first | exact con1 (by assumption) _ | exact con2 (by assumption) _ _); (((case kB => k_asm); (case kF => k_asm); (case kX => k_asm); (case kN => k_asm); (case kT => k_asm); (case kk => first | assumption | exact rfl); (case kd => first | (first | lia | omega) | ((try simp only [depth_deeper]); (first | lia | omega)) | ktr_room); (case ku => first | (first | lia | omega) | ((try simp only [units_deeper]); (first | lia | omega)) | ktr_units))); ((intro qh' qtk' qt' qhtk' qF' qN')))) | ((with_reducible show wpAny _ _ (call (Value.ref 172) _) _ _ _); (k_here; (with_reducible show wpAny _ _ (call (Value.ref 172) _) _ _ _); refine' useNV (prep_okW (by assumption) _ _ _ _ _) ?kB ?kF ?kX ?kN ?kT ?kk ?kd ?ku ?_; (((case kB => k_asm); (case kF => k_asm); (case kX => k_asm); (case kN => k_asm); (case kT => k_asm); (case kk => first | assumption | exact rfl); (case kd => first | (first | lia | omega) | ((try simp only [depth_deeper]); (first | lia | omega)) | ktr_room); (case ku => first | (first | lia | omega) | ((try simp only [units_deeper]); (first | lia | omega)) | ktr_units))); ((intro qh' qtk' qt' qhtk' qF' qN')))) | ((with_reducible show wpAny _ _ (subscriptTail (Expr.Name _ _) (Expr.Name _ _) (Value.ref _) (Value.int _ _)) _ _ _); (k_here; (with_reducible rename News _ _ _ _ => kN); k_dflt (first | refine item_mem (l := [_, _, _, _]) kN (by k_mem) (by (first | lia | omega)) (by (first | lia | omega)) (by assumption) ?_ | refine item_mem (l := [_, _, _]) kN (by k_mem) (by (first | lia | omega)) (by (first | lia | omega)) (by assumption) ?_))) | (k_unfold; (try dsimp only)) | (k_end; wrow_close) | walk1 | (dsimp only; walk1) | (leave1; walk_say "STEP leave1"; try dsimp only) | fail "no step")))))
    (((try dsimp only); refine toks_ge ?_; intro qkt' qhkt'; (try dsimp only)))
    (((refine wpAny_execs_cons ?_); (with_reducible refine any_toks ?_); (repeat' ( (fail_if_success (with_reducible show wpAny _ _ (execs _ _) _ _ _)); (first | ((refine fun (qhz : Nat.le _ _) => ?_); (try simp only [Nat.le_eq] at qhz)) | ((with_reducible show wpAny _ _ (binaryOp Operator.Add (Value.str _ _) (Value.str _ _)) _ _ _); ((refine SBL.add (hsz := ?hsz) ?_); (case hsz => first | exact cadd2 (by assumption) _ _ | exact cadd3 (by assumption) _ _ _); intro _ _ _)) | ((with_reducible show wpAny _ _ (call (Value.builtin "len") _) _ _ _); (k_here; (with_reducible show wpAny _ _ (call (Value.builtin "len") [Value.ref _]) _ _ _); (with_reducible rename News _ _ _ _ => kN); k_dflt (refine len_lst kN (by k_mem) (by assumption) (by first | assumption | rfl) ?_))) | ((with_reducible show wpAny _ _ (call (Value.builtin "len") _) _ _ _); (k_dflt (first | refine P.len_str (wfit (by assumption) _) ?_ | refine P.len_str (cfit (by assumption) _ _ _) ?_))) | ((with_reducible show wpAny _ _ (subscriptTail (Expr.Name _ _) (Expr.Constant _ _ _) (Value.ref _) (Value.int _ _)) _ _ _); (k_here; (with_reducible rename News _ _ _ _ => kN); k_dflt (first | refine item_mem (l := [_, _, _]) kN (by k_mem) (by decide) (by decide) (by exact rfl) ?_ | refine item_mem (l := [_, _, _, _]) kN (by k_mem) (by decide) (by decide) (by exact rfl) ?_))) | ((with_reducible show wpAny _ _ (subscriptTail (Expr.Name _ _) (Expr.Subscript _ _ _) (Value.ref _) (Value.int _ _)) _ _ _); (k_here; (with_reducible rename News _ _ _ _ => kN); k_dflt (refine item_mem (l := [_, _, _]) kN (by k_mem) (by (first | lia | omega)) (by (first | lia | omega)) (by assumption) ?_))) | ((with_reducible show wpAny _ _ (call (Value.ref 28) _) _ _ _); (k_here; (with_reducible show wpAny _ _ (call (Value.ref 28) _) _ _ _); refine' useNV (lev_ok _ _ _ _ _ _ _ ?q1 ?q2 ?q3 ?q4) ?kB ?kF ?kX ?kN ?kT ?kk ?kd ?ku ?_; (case q1 => first | with_reducible exact LawF.rl (by assumption) | with_reducible exact wle (by assumption) _ | with_reducible exact cle (by assumption) _ _ _ | exact cle (by assumption) _ _ _ | exact wle (by assumption) _); (case q2 => first | with_reducible exact LawF.rl (by assumption) | with_reducible exact wle (by assumption) _ | with_reducible exact cle (by assumption) _ _ _ | exact cle (by assumption) _ _ _ | exact wle (by assumption) _); (case q3 => first | exact mx1 (by assumption) | exact mx3 (by assumption) | decide); (case q4 => first | exact mx2 (by assumption) | exact mx4 (by assumption) | decide); (((case kB => k_asm); (case kF => k_asm); (case kX => k_asm); (case kN => k_asm); (case kT => k_asm); (case kk => first | assumption | exact rfl); (case kd => first | (first | lia | omega) | ((try simp only [depth_deeper]); (first | lia | omega)) | ktr_room); (case ku => first | (first | lia | omega) | ((try simp only [units_deeper]); (first | lia | omega)) | ktr_units))); ((intro qh' qtk' qt' qhtk' qF' qN')))) | ((with_reducible show wpAny _ _ (call (Value.ref 35) _) _ _ _); (k_here; (with_reducible show wpAny _ _ (call (Value.ref 35) _) _ _ _); refine' useNB (gt_okF (by assumption) (by assumption) _ _ _) ?kB ?kF ?kX ?kN ?kT ?kk ?kd ?ku ?_; (((case kB => k_asm); (case kF => k_asm); (case kX => k_asm); (case kN => k_asm); (case kT => k_asm); (case kk => first | assumption | exact rfl); (case kd => first | (first | lia | omega) | ((try simp only [depth_deeper]); (first | lia | omega)) | ktr_room); (case ku => first | (first | lia | omega) | ((try simp only [units_deeper]); (first | lia | omega)) | ktr_units))); (intro qh' qtk' qhtk' qF' qN'))) | ((with_reducible show wpAny _ _ (call (Value.ref 63) _) _ _ _); (k_here; (with_reducible show wpAny _ _ (call (Value.ref 63) _) _ _ _); refine' useNV (concat_ok _ _ _ _ _ ?q1 ?q2) ?kB ?kF ?kX ?kN ?kT ?kk ?kd ?ku ?_; (case q1 => first | exact con1 (by assumption) _ | exact con2 (by assumption) _ _); (case q2 => first | exact con1 (by assumption) _ | exact con2 (by assumption) _ _); (((case kB => k_asm); (case kF => k_asm); (case kX => k_asm); (case kN => k_asm); (case kT => k_asm); (case kk => first | assumption | exact rfl); (case kd => first | (first | lia | omega) | ((try simp only [depth_deeper]); (first | lia | omega)) | ktr_room); (case ku => first | (first | lia | omega) | ((try simp only [units_deeper]); (first | lia | omega)) | ktr_units))); ((intro qh' qtk' qt' qhtk' qF' qN')))) | ((with_reducible show wpAny _ _ (call (Value.ref 172) _) _ _ _); (k_here; (with_reducible show wpAny _ _ (call (Value.ref 172) _) _ _ _); refine' useNV (prep_okW (by assumption) _ _ _ _ _) ?kB ?kF ?kX ?kN ?kT ?kk ?kd ?ku ?_; (((case kB => k_asm); (case kF => k_asm); (case kX => k_asm); (case kN => k_asm); (case kT => k_asm); (case kk => first | assumption | exact rfl); (case kd => first | (first | lia | omega) | ((try simp only [depth_deeper]); (first | lia | omega)) | ktr_room); (case ku => first | (first | lia | omega) | ((try simp only [units_deeper]); (first | lia | omega)) | ktr_units))); ((intro qh' qtk' qt' qhtk' qF' qN')))) | ((with_reducible show wpAny _ _ (subscriptTail (Expr.Name _ _) (Expr.Name _ _) (Value.ref _) (Value.int _ _)) _ _ _); (k_here; (with_reducible rename News _ _ _ _ => kN); k_dflt (first | refine item_mem (l := [_, _, _, _]) kN (by k_mem) (by (first | lia | omega)) (by (first | lia | omega)) (by assumption) ?_ | refine item_mem (l := [_, _, _]) kN (by k_mem) (by (first | lia | omega)) (by (first | lia | omega)) (by assumption) ?_))) | (k_unfold; (try dsimp only)) | (k_end; wrow_close) | walk1 | (dsimp only; walk1) | (leave1; walk_say "STEP leave1"; try dsimp only) | fail "no step")))))
    · (repeat' ( (fail_if_success (with_reducible show wpAny _ _ (execs (_ :: _) _) _ _ _)); (first | ((refine fun (qhz : Nat.le _ _) => ?_); (try simp only [Nat.le_eq] at qhz)) | ((with_reducible show wpAny _ _ (binaryOp Operator.Add (Value.str _ _) (Value.str _ _)) _ _ _); ((refine SBL.add (hsz := ?hsz) ?_); (case hsz => first | exact cadd2 (by assumption) _ _ | exact cadd3 (by assumption) _ _ _); intro _ _ _)) | ((with_reducible show wpAny _ _ (call (Value.builtin "len") _) _ _ _); (k_here; (with_reducible show wpAny _ _ (call (Value.builtin "len") [Value.ref _]) _ _ _); (with_reducible rename News _ _ _ _ => kN); k_dflt (refine len_lst kN (by k_mem) (by assumption) (by first | assumption | rfl) ?_))) | ((with_reducible show wpAny _ _ (call (Value.builtin "len") _) _ _ _); (k_dflt (first | refine P.len_str (wfit (by assumption) _) ?_ | refine P.len_str (cfit (by assumption) _ _ _) ?_))) | ((with_reducible show wpAny _ _ (subscriptTail (Expr.Name _ _) (Expr.Constant _ _ _) (Value.ref _) (Value.int _ _)) _ _ _); (k_here; (with_reducible rename News _ _ _ _ => kN); k_dflt (first | refine item_mem (l := [_, _, _]) kN (by k_mem) (by decide) (by decide) (by exact rfl) ?_ | refine item_mem (l := [_, _, _, _]) kN (by k_mem) (by decide) (by decide) (by exact rfl) ?_))) | ((with_reducible show wpAny _ _ (subscriptTail (Expr.Name _ _) (Expr.Subscript _ _ _) (Value.ref _) (Value.int _ _)) _ _ _); (k_here; (with_reducible rename News _ _ _ _ => kN); k_dflt (refine item_mem (l := [_, _, _]) kN (by k_mem) (by (first | lia | omega)) (by (first | lia | omega)) (by assumption) ?_))) | ((with_reducible show wpAny _ _ (call (Value.ref 28) _) _ _ _); (k_here; (with_reducible show wpAny _ _ (call (Value.ref 28) _) _ _ _); refine' useNV (lev_ok _ _ _ _ _ _ _ ?q1 ?q2 ?q3 ?q4) ?kB ?kF ?kX ?kN ?kT ?kk ?kd ?ku ?_; (case q1 => first | with_reducible exact LawF.rl (by assumption) | with_reducible exact wle (by assumption) _ | with_reducible exact cle (by assumption) _ _ _ | exact cle (by assumption) _ _ _ | exact wle (by assumption) _); (case q2 => first | with_reducible exact LawF.rl (by assumption) | with_reducible exact wle (by assumption) _ | with_reducible exact cle (by assumption) _ _ _ | exact cle (by assumption) _ _ _ | exact wle (by assumption) _); (case q3 => first | exact mx1 (by assumption) | exact mx3 (by assumption) | decide); (case q4 => first | exact mx2 (by assumption) | exact mx4 (by assumption) | decide); (((case kB => k_asm); (case kF => k_asm); (case kX => k_asm); (case kN => k_asm); (case kT => k_asm); (case kk => first | assumption | exact rfl); (case kd => first | (first | lia | omega) | ((try simp only [depth_deeper]); (first | lia | omega)) | ktr_room); (case ku => first | (first | lia | omega) | ((try simp only [units_deeper]); (first | lia | omega)) | ktr_units))); ((intro qh' qtk' qt' qhtk' qF' qN')))) | ((with_reducible show wpAny _ _ (call (Value.ref 35) _) _ _ _); (k_here; (with_reducible show wpAny _ _ (call (Value.ref 35) _) _ _ _); refine' useNB (gt_okF (by assumption) (by assumption) _ _ _) ?kB ?kF ?kX ?kN ?kT ?kk ?kd ?ku ?_; (((case kB => k_asm); (case kF => k_asm); (case kX => k_asm); (case kN => k_asm); (case kT => k_asm); (case kk => first | assumption | exact rfl); (case kd => first | (first | lia | omega) | ((try simp only [depth_deeper]); (first | lia | omega)) | ktr_room); (case ku => first | (first | lia | omega) | ((try simp only [units_deeper]); (first | lia | omega)) | ktr_units))); (intro qh' qtk' qhtk' qF' qN'))) | ((with_reducible show wpAny _ _ (call (Value.ref 63) _) _ _ _); (k_here; (with_reducible show wpAny _ _ (call (Value.ref 63) _) _ _ _); refine' useNV (concat_ok _ _ _ _ _ ?q1 ?q2) ?kB ?kF ?kX ?kN ?kT ?kk ?kd ?ku ?_; (case q1 => first | exact con1 (by assumption) _ | exact con2 (by assumption) _ _); (case q2 => first | exact con1 (by assumption) _ | exact con2 (by assumption) _ _); (((case kB => k_asm); (case kF => k_asm); (case kX => k_asm); (case kN => k_asm); (case kT => k_asm); (case kk => first | assumption | exact rfl); (case kd => first | (first | lia | omega) | ((try simp only [depth_deeper]); (first | lia | omega)) | ktr_room); (case ku => first | (first | lia | omega) | ((try simp only [units_deeper]); (first | lia | omega)) | ktr_units))); ((intro qh' qtk' qt' qhtk' qF' qN')))) | ((with_reducible show wpAny _ _ (call (Value.ref 172) _) _ _ _); (k_here; (with_reducible show wpAny _ _ (call (Value.ref 172) _) _ _ _); refine' useNV (prep_okW (by assumption) _ _ _ _ _) ?kB ?kF ?kX ?kN ?kT ?kk ?kd ?ku ?_; (((case kB => k_asm); (case kF => k_asm); (case kX => k_asm); (case kN => k_asm); (case kT => k_asm); (case kk => first | assumption | exact rfl); (case kd => first | (first | lia | omega) | ((try simp only [depth_deeper]); (first | lia | omega)) | ktr_room); (case ku => first | (first | lia | omega) | ((try simp only [units_deeper]); (first | lia | omega)) | ktr_units))); ((intro qh' qtk' qt' qhtk' qF' qN')))) | ((with_reducible show wpAny _ _ (subscriptTail (Expr.Name _ _) (Expr.Name _ _) (Value.ref _) (Value.int _ _)) _ _ _); (k_here; (with_reducible rename News _ _ _ _ => kN); k_dflt (first | refine item_mem (l := [_, _, _, _]) kN (by k_mem) (by (first | lia | omega)) (by (first | lia | omega)) (by assumption) ?_ | refine item_mem (l := [_, _, _]) kN (by k_mem) (by (first | lia | omega)) (by (first | lia | omega)) (by assumption) ?_))) | (k_unfold; (try dsimp only)) | (k_end; wrow_close) | walk1 | (dsimp only; walk1) | (leave1; walk_say "STEP leave1"; try dsimp only) | fail "no step")))
      (rename Fr _ _ _ _ => kF)
      (rename News _ _ _ _ => kN)
      have hz1 : @LE.le Nat _ k t := by (try dsimp only at ht1); (first | lia | omega)
      exact hR _ _ _ t _ hz1 (by (first | lia | omega)) (by rfl) (map5F kF (by rfl) (by rfl) (by rfl) (by rfl) (by rfl)) (fun z hz => kN z (List.mem_cons_of_mem _ (List.mem_cons_of_mem _ hz)))
    · exact absurd (below_eq LF hP) (by assumption)

end Mine
end

section
open PySem PySem.W PyProof.Rows
set_option maxRecDepth 100000
namespace Mine
-- a local whose value a fact tells
local macro_rules | `(tactic| walk_at "subscriptTail Name Slice str ref") => `(tactic| ((with_reducible rename Fr _ _ _ _ => F'); (with_reducible rename News _ _ _ _ => N'); (refine slice_strN_nn (hsz := ?hsz) (s := ⟨_, _, _, _, _⟩) F' N' ?_); (case hsz => size_fits); intro _ _ _ _ _))

local macro_rules | `(tactic| walk_at "subscriptTail Name Slice str ref") => `(tactic| ((with_reducible rename Fr _ _ _ _ => F'); (with_reducible rename News _ _ _ _ => N'); (refine slice_strN_ns (hsz := ?hsz) (s := ⟨_, _, _, _, _⟩) F' N' ?_); (case hsz => exact csz (by assumption) _ _ _); intro _ _ _ _ _))
set_option maxHeartbeats 16000000 in
theorem law_5 (w : World) (x0 x1 x2 x3 : Int) (hx3 : 0 ≤ x3) (U V : Nat) (ri fa : Int) (hri : ri = 1 ∨ ri = 2) (hfa : fa = 1 ∨ fa = 2) (W T : Nat → Str) (H : Nat → Nat → Nat → Int) (LF : LawF U V ri fa W T H)
    (dp un : Nat) (gd : Option (List Code)) (fn : Addr) (ccd : Value) (outer : List Env) (A₀ : Around) (base h₀ h : Heap) (L D Dw Dt Dh : Addr) (m : FMap) (o1 o2 o3 o4 o5 o6 : Obj) (t0 t1 t2 t3 tu tv tr tf wt0 wt1 wt2 yt0 yt1 yt2 tR tn tx : Tok) (cD k c : Nat)
    (s : Shared) (Q : Flow → Shared → Prop) (E : Value → Shared → Prop) (mean : ExcName → Option Value) (mg mb : FMap)
    (B : Below A₀ base outer h₀) (X : (KK w.params).In h₀) (Tp : Top qv (looseW qv loose0) mean mg mb h₀)
    (d1 : o1.data = .cell (some (.ref D))) (d2 : o2.data = .cell (some (.str ⟨#[U]⟩ tu))) (d3 : o3.data = .cell (some (.str ⟨#[V]⟩ tv))) (d4 : o4.data = .cell (some (.int ri tr))) (d5 : o5.data = .cell (some (.int fa tf))) (d6 : o6.data = .cell (some (.ref Dw)))
    (hd : dp + 40 < recursionLimit) (hu : un + 800 < cLine) (hu0 : @Ne Nat tu 0) (hv0 : @Ne Nat tv 0) (huk : @LT.lt Nat _ tu k) (hvk : @LT.lt Nat _ tv k)
    (hE : PassesOwn (model r0.prog w) (ktrTop dp un gd (Str.ofString "law") d26.scope L fn ccd (cellsFrom (L + 1) d26.scope.names []) outer) (envOfC (Str.ofString "law") d26.scope L fn ccd) E) (vs : List Value) (hI : IntsAre vs (six H)) (hT : HT vs k)
    (F : Fr h₀ L h (fun z => if z = Str.ofString "heights" then some (Value.ref Dh) else if z = Str.ofString "text" then some (Value.str (cat3 W 2 1 0) tx) else m z))
    (N : News h₀ L h [(Dh, listOf (List.toArray vs) c), (Dt, LCg.lst [.str (T 0) yt0, .str (T 1) yt1, .str (T 2) yt2]), (Dw, LCg.lst [.str (W 0) wt0, .str (W 1) wt1, .str (W 2) wt2]), (D, listOf #[.int x0 t0, .int x1 t1, .int x2 t2, .int x3 t3] cD), (L + 1 + 1 + 1 + 1 + 1 + 1, o6), (L + 1 + 1 + 1 + 1 + 1, o5), (L + 1 + 1 + 1 + 1, o4), (L + 1 + 1 + 1, o3), (L + 1 + 1, o2), (L + 1, o1)])
    (h6 : ∀ (h' : Heap) (tk : Tok) (m' : FMap), (@LE.le Nat _ k tk) → m' (Str.ofString "heights") = some (.ref Dh) → Fr h₀ L h' m' → News h₀ L h' [(Dh, listOf (List.toArray vs) c), (Dt, LCg.lst [.str (T 0) yt0, .str (T 1) yt1, .str (T 2) yt2]), (Dw, LCg.lst [.str (W 0) wt0, .str (W 1) wt1, .str (W 2) wt2]), (D, listOf #[.int x0 t0, .int x1 t1, .int x2 t2, .int x3 t3] cD), (L + 1 + 1 + 1 + 1 + 1 + 1, o6), (L + 1 + 1 + 1 + 1 + 1, o5), (L + 1 + 1 + 1 + 1, o4), (L + 1 + 1 + 1, o3), (L + 1 + 1, o2), (L + 1, o1)] → wpAny (model r0.prog w) (ktrTop dp un gd (Str.ofString "law") d26.scope L fn ccd (cellsFrom (L + 1) d26.scope.names []) outer) (execs (d26.body.drop 18) (envOfC (Str.ofString "law") d26.scope L fn ccd)) Q E ⟨h', s.gens, s.drawn, tk, s.os⟩) :
    wpAny (model r0.prog w) (ktrTop dp un gd (Str.ofString "law") d26.scope L fn ccd (cellsFrom (L + 1) d26.scope.names []) outer) (execs (d26.body.drop 13) (envOfC (Str.ofString "law") d26.scope L fn ccd)) Q E ⟨h, s.gens, s.drawn, k, s.os⟩ := by
  revert h6
  delta d26
  dsimp only [List.drop]
  revert X
  k_fill
  intro X h6
  (((refine wpAny_execs_cons ?_); (with_reducible refine any_toks ?_); (repeat' ( (fail_if_success (with_reducible show wpAny _ _ (execs _ _) _ _ _)); (first | ((refine fun (qhz : Nat.le _ _) => ?_); (try simp only [Nat.le_eq] at qhz)) | ((with_reducible show wpAny _ _ (call (Value.builtin "str.upper") _) _ _ _); (k_here; (try dsimp only); k_dflt (refine SCL.upper (upfit5 (by assumption)) ?_; intro _))) | ((with_reducible show wpAny _ _ (binaryOp Operator.Add (Value.str _ _) (Value.str _ _)) _ _ _); ((refine SBL.add (hsz := ?hsz) ?_); (case hsz => first | with_reducible exact hadd1 (by assumption) | with_reducible exact hadd2 (by assumption) | with_reducible exact hadd3 (by assumption)); intro _ _ _)) | ((with_reducible show wpAny _ _ (call (Value.ref 28) _) _ _ _); (k_here; (with_reducible show wpAny _ _ (call (Value.ref 28) _) _ _ _); refine' useNV (lev_ok _ _ _ _ _ _ _ ?q1 ?q2 ?q3 ?q4) ?kB ?kF ?kX ?kN ?kT ?kk ?kd ?ku ?_; (case q1 => (first | with_reducible exact hbe (by assumption) | with_reducible exact hah (by assumption) | with_reducible exact hle (by assumption) | with_reducible exact hup (by assumption) | with_reducible exact x41 | with_reducible exact cle (by assumption) _ _ _)); (case q2 => (first | with_reducible exact hbe (by assumption) | with_reducible exact hah (by assumption) | with_reducible exact hle (by assumption) | with_reducible exact hup (by assumption) | with_reducible exact x41 | with_reducible exact cle (by assumption) _ _ _)); (case q3 => decide); (case q4 => decide); (((case kB => k_asm); (case kF => k_asm); (case kX => k_asm); (case kN => k_asm); (case kT => k_asm); (case kk => first | assumption | exact rfl); (case kd => first | (first | lia | omega) | ((try simp only [depth_deeper]); (first | lia | omega)) | ktr_room); (case ku => first | (first | lia | omega) | ((try simp only [units_deeper]); (first | lia | omega)) | ktr_units))); ((intro qh' qtk' qt' qhtk' qF' qN')))) | ((with_reducible show wpAny _ _ (subscriptTail (Expr.Name _ _) (Expr.Name _ _) (Value.ref _) (Value.int _ _)) _ _ _); (k_here; (with_reducible rename News _ _ _ _ => kN); k_dflt (first | refine item_mem (l := [_, _, _, _]) kN (by k_mem) (by (first | lia | omega)) (by (first | lia | omega)) (by assumption) ?_ | refine item_mem (l := [_, _, _]) kN (by k_mem) (by (first | lia | omega)) (by (first | lia | omega)) (by assumption) ?_))) | (k_unfold; (try dsimp only)) | (k_end; wrow_close) | walk1 | (dsimp only; walk1) | (leave1; walk_say "STEP leave1"; try dsimp only) | fail "no step")))))
  (((try dsimp only); refine toks_ge ?_; intro qkt' qhkt'; (try dsimp only)))
  (rename Fr _ _ _ _ => kF)
  change Fr h₀ L _ (fun z => if z = Str.ofString "head" then some (.str (hdS W) _) else _) at kF
  (((refine wpAny_execs_cons ?_); (with_reducible refine any_toks ?_); (repeat' ( (fail_if_success (with_reducible show wpAny _ _ (execs _ _) _ _ _)); (first | ((refine fun (qhz : Nat.le _ _) => ?_); (try simp only [Nat.le_eq] at qhz)) | ((with_reducible show wpAny _ _ (call (Value.builtin "str.upper") _) _ _ _); (k_here; (try dsimp only); k_dflt (refine SCL.upper (upfit5 (by assumption)) ?_; intro _))) | ((with_reducible show wpAny _ _ (binaryOp Operator.Add (Value.str _ _) (Value.str _ _)) _ _ _); ((refine SBL.add (hsz := ?hsz) ?_); (case hsz => first | with_reducible exact hadd1 (by assumption) | with_reducible exact hadd2 (by assumption) | with_reducible exact hadd3 (by assumption)); intro _ _ _)) | ((with_reducible show wpAny _ _ (call (Value.ref 28) _) _ _ _); (k_here; (with_reducible show wpAny _ _ (call (Value.ref 28) _) _ _ _); refine' useNV (lev_ok _ _ _ _ _ _ _ ?q1 ?q2 ?q3 ?q4) ?kB ?kF ?kX ?kN ?kT ?kk ?kd ?ku ?_; (case q1 => (first | with_reducible exact hbe (by assumption) | with_reducible exact hah (by assumption) | with_reducible exact hle (by assumption) | with_reducible exact hup (by assumption) | with_reducible exact x41 | with_reducible exact cle (by assumption) _ _ _)); (case q2 => (first | with_reducible exact hbe (by assumption) | with_reducible exact hah (by assumption) | with_reducible exact hle (by assumption) | with_reducible exact hup (by assumption) | with_reducible exact x41 | with_reducible exact cle (by assumption) _ _ _)); (case q3 => decide); (case q4 => decide); (((case kB => k_asm); (case kF => k_asm); (case kX => k_asm); (case kN => k_asm); (case kT => k_asm); (case kk => first | assumption | exact rfl); (case kd => first | (first | lia | omega) | ((try simp only [depth_deeper]); (first | lia | omega)) | ktr_room); (case ku => first | (first | lia | omega) | ((try simp only [units_deeper]); (first | lia | omega)) | ktr_units))); ((intro qh' qtk' qt' qhtk' qF' qN')))) | ((with_reducible show wpAny _ _ (subscriptTail (Expr.Name _ _) (Expr.Name _ _) (Value.ref _) (Value.int _ _)) _ _ _); (k_here; (with_reducible rename News _ _ _ _ => kN); k_dflt (first | refine item_mem (l := [_, _, _, _]) kN (by k_mem) (by (first | lia | omega)) (by (first | lia | omega)) (by assumption) ?_ | refine item_mem (l := [_, _, _]) kN (by k_mem) (by (first | lia | omega)) (by (first | lia | omega)) (by assumption) ?_))) | (k_unfold; (try dsimp only)) | (k_end; wrow_close) | walk1 | (dsimp only; walk1) | (leave1; walk_say "STEP leave1"; try dsimp only) | fail "no step")))))
  (((try dsimp only); refine toks_ge ?_; intro qkt' qhkt'; (try dsimp only)))
  (((refine wpAny_execs_cons ?_); (with_reducible refine any_toks ?_); (repeat' ( (fail_if_success (with_reducible show wpAny _ _ (execs _ _) _ _ _)); (first | ((refine fun (qhz : Nat.le _ _) => ?_); (try simp only [Nat.le_eq] at qhz)) | ((with_reducible show wpAny _ _ (call (Value.builtin "str.upper") _) _ _ _); (k_here; (try dsimp only); k_dflt (refine SCL.upper (upfit5 (by assumption)) ?_; intro _))) | ((with_reducible show wpAny _ _ (binaryOp Operator.Add (Value.str _ _) (Value.str _ _)) _ _ _); ((refine SBL.add (hsz := ?hsz) ?_); (case hsz => first | with_reducible exact hadd1 (by assumption) | with_reducible exact hadd2 (by assumption) | with_reducible exact hadd3 (by assumption)); intro _ _ _)) | ((with_reducible show wpAny _ _ (call (Value.ref 28) _) _ _ _); (k_here; (with_reducible show wpAny _ _ (call (Value.ref 28) _) _ _ _); refine' useNV (lev_ok _ _ _ _ _ _ _ ?q1 ?q2 ?q3 ?q4) ?kB ?kF ?kX ?kN ?kT ?kk ?kd ?ku ?_; (case q1 => (first | with_reducible exact hbe (by assumption) | with_reducible exact hah (by assumption) | with_reducible exact hle (by assumption) | with_reducible exact hup (by assumption) | with_reducible exact x41 | with_reducible exact cle (by assumption) _ _ _)); (case q2 => (first | with_reducible exact hbe (by assumption) | with_reducible exact hah (by assumption) | with_reducible exact hle (by assumption) | with_reducible exact hup (by assumption) | with_reducible exact x41 | with_reducible exact cle (by assumption) _ _ _)); (case q3 => decide); (case q4 => decide); (((case kB => k_asm); (case kF => k_asm); (case kX => k_asm); (case kN => k_asm); (case kT => k_asm); (case kk => first | assumption | exact rfl); (case kd => first | (first | lia | omega) | ((try simp only [depth_deeper]); (first | lia | omega)) | ktr_room); (case ku => first | (first | lia | omega) | ((try simp only [units_deeper]); (first | lia | omega)) | ktr_units))); ((intro qh' qtk' qt' qhtk' qF' qN')))) | ((with_reducible show wpAny _ _ (subscriptTail (Expr.Name _ _) (Expr.Name _ _) (Value.ref _) (Value.int _ _)) _ _ _); (k_here; (with_reducible rename News _ _ _ _ => kN); k_dflt (first | refine item_mem (l := [_, _, _, _]) kN (by k_mem) (by (first | lia | omega)) (by (first | lia | omega)) (by assumption) ?_ | refine item_mem (l := [_, _, _]) kN (by k_mem) (by (first | lia | omega)) (by (first | lia | omega)) (by assumption) ?_))) | (k_unfold; (try dsimp only)) | (k_end; wrow_close) | walk1 | (dsimp only; walk1) | (leave1; walk_say "STEP leave1"; try dsimp only) | fail "no step")))))
  (((try dsimp only); refine toks_ge ?_; intro qkt' qhkt'; (try dsimp only)))
  (((refine wpAny_execs_cons ?_); (with_reducible refine any_toks ?_); (repeat' ( (fail_if_success (with_reducible show wpAny _ _ (execs _ _) _ _ _)); (first | ((refine fun (qhz : Nat.le _ _) => ?_); (try simp only [Nat.le_eq] at qhz)) | ((with_reducible show wpAny _ _ (call (Value.builtin "str.upper") _) _ _ _); (k_here; (try dsimp only); k_dflt (refine SCL.upper (upfit5 (by assumption)) ?_; intro _))) | ((with_reducible show wpAny _ _ (binaryOp Operator.Add (Value.str _ _) (Value.str _ _)) _ _ _); ((refine SBL.add (hsz := ?hsz) ?_); (case hsz => first | with_reducible exact hadd1 (by assumption) | with_reducible exact hadd2 (by assumption) | with_reducible exact hadd3 (by assumption)); intro _ _ _)) | ((with_reducible show wpAny _ _ (call (Value.ref 28) _) _ _ _); (k_here; (with_reducible show wpAny _ _ (call (Value.ref 28) _) _ _ _); refine' useNV (lev_ok _ _ _ _ _ _ _ ?q1 ?q2 ?q3 ?q4) ?kB ?kF ?kX ?kN ?kT ?kk ?kd ?ku ?_; (case q1 => (first | with_reducible exact hbe (by assumption) | with_reducible exact hah (by assumption) | with_reducible exact hle (by assumption) | with_reducible exact hup (by assumption) | with_reducible exact x41 | with_reducible exact cle (by assumption) _ _ _)); (case q2 => (first | with_reducible exact hbe (by assumption) | with_reducible exact hah (by assumption) | with_reducible exact hle (by assumption) | with_reducible exact hup (by assumption) | with_reducible exact x41 | with_reducible exact cle (by assumption) _ _ _)); (case q3 => decide); (case q4 => decide); (((case kB => k_asm); (case kF => k_asm); (case kX => k_asm); (case kN => k_asm); (case kT => k_asm); (case kk => first | assumption | exact rfl); (case kd => first | (first | lia | omega) | ((try simp only [depth_deeper]); (first | lia | omega)) | ktr_room); (case ku => first | (first | lia | omega) | ((try simp only [units_deeper]); (first | lia | omega)) | ktr_units))); ((intro qh' qtk' qt' qhtk' qF' qN')))) | ((with_reducible show wpAny _ _ (subscriptTail (Expr.Name _ _) (Expr.Name _ _) (Value.ref _) (Value.int _ _)) _ _ _); (k_here; (with_reducible rename News _ _ _ _ => kN); k_dflt (first | refine item_mem (l := [_, _, _, _]) kN (by k_mem) (by (first | lia | omega)) (by (first | lia | omega)) (by assumption) ?_ | refine item_mem (l := [_, _, _]) kN (by k_mem) (by (first | lia | omega)) (by (first | lia | omega)) (by assumption) ?_))) | (k_unfold; (try dsimp only)) | (k_end; wrow_close) | walk1 | (dsimp only; walk1) | (leave1; walk_say "STEP leave1"; try dsimp only) | fail "no step")))))
  rotate_left
  · exact absurd (h12 LF) (by assumption)
  (repeat' ( (fail_if_success (with_reducible show wpAny _ _ (execs (_ :: _) _) _ _ _)); (first | ((refine fun (qhz : Nat.le _ _) => ?_); (try simp only [Nat.le_eq] at qhz)) | ((with_reducible show wpAny _ _ (call (Value.builtin "str.upper") _) _ _ _); (k_here; (try dsimp only); k_dflt (refine SCL.upper (upfit5 (by assumption)) ?_; intro _))) | ((with_reducible show wpAny _ _ (binaryOp Operator.Add (Value.str _ _) (Value.str _ _)) _ _ _); ((refine SBL.add (hsz := ?hsz) ?_); (case hsz => first | with_reducible exact hadd1 (by assumption) | with_reducible exact hadd2 (by assumption) | with_reducible exact hadd3 (by assumption)); intro _ _ _)) | ((with_reducible show wpAny _ _ (call (Value.ref 28) _) _ _ _); (k_here; (with_reducible show wpAny _ _ (call (Value.ref 28) _) _ _ _); refine' useNV (lev_ok _ _ _ _ _ _ _ ?q1 ?q2 ?q3 ?q4) ?kB ?kF ?kX ?kN ?kT ?kk ?kd ?ku ?_; (case q1 => (first | with_reducible exact hbe (by assumption) | with_reducible exact hah (by assumption) | with_reducible exact hle (by assumption) | with_reducible exact hup (by assumption) | with_reducible exact x41 | with_reducible exact cle (by assumption) _ _ _)); (case q2 => (first | with_reducible exact hbe (by assumption) | with_reducible exact hah (by assumption) | with_reducible exact hle (by assumption) | with_reducible exact hup (by assumption) | with_reducible exact x41 | with_reducible exact cle (by assumption) _ _ _)); (case q3 => decide); (case q4 => decide); (((case kB => k_asm); (case kF => k_asm); (case kX => k_asm); (case kN => k_asm); (case kT => k_asm); (case kk => first | assumption | exact rfl); (case kd => first | (first | lia | omega) | ((try simp only [depth_deeper]); (first | lia | omega)) | ktr_room); (case ku => first | (first | lia | omega) | ((try simp only [units_deeper]); (first | lia | omega)) | ktr_units))); ((intro qh' qtk' qt' qhtk' qF' qN')))) | ((with_reducible show wpAny _ _ (subscriptTail (Expr.Name _ _) (Expr.Name _ _) (Value.ref _) (Value.int _ _)) _ _ _); (k_here; (with_reducible rename News _ _ _ _ => kN); k_dflt (first | refine item_mem (l := [_, _, _, _]) kN (by k_mem) (by (first | lia | omega)) (by (first | lia | omega)) (by assumption) ?_ | refine item_mem (l := [_, _, _]) kN (by k_mem) (by (first | lia | omega)) (by (first | lia | omega)) (by assumption) ?_))) | (k_unfold; (try dsimp only)) | (k_end; wrow_close) | walk1 | (dsimp only; walk1) | (leave1; walk_say "STEP leave1"; try dsimp only) | fail "no step")))
  (((try dsimp only); refine toks_ge ?_; intro qkt' qhkt'; (try dsimp only)))
  (((refine wpAny_execs_cons ?_); (with_reducible refine any_toks ?_); (repeat' ( (fail_if_success (with_reducible show wpAny _ _ (execs _ _) _ _ _)); (first | ((refine fun (qhz : Nat.le _ _) => ?_); (try simp only [Nat.le_eq] at qhz)) | ((with_reducible show wpAny _ _ (call (Value.builtin "str.upper") _) _ _ _); (k_here; (try dsimp only); k_dflt (refine SCL.upper (upfit5 (by assumption)) ?_; intro _))) | ((with_reducible show wpAny _ _ (binaryOp Operator.Add (Value.str _ _) (Value.str _ _)) _ _ _); ((refine SBL.add (hsz := ?hsz) ?_); (case hsz => first | with_reducible exact hadd1 (by assumption) | with_reducible exact hadd2 (by assumption) | with_reducible exact hadd3 (by assumption)); intro _ _ _)) | ((with_reducible show wpAny _ _ (call (Value.ref 28) _) _ _ _); (k_here; (with_reducible show wpAny _ _ (call (Value.ref 28) _) _ _ _); refine' useNV (lev_ok _ _ _ _ _ _ _ ?q1 ?q2 ?q3 ?q4) ?kB ?kF ?kX ?kN ?kT ?kk ?kd ?ku ?_; (case q1 => (first | with_reducible exact hbe (by assumption) | with_reducible exact hah (by assumption) | with_reducible exact hle (by assumption) | with_reducible exact hup (by assumption) | with_reducible exact x41 | with_reducible exact cle (by assumption) _ _ _)); (case q2 => (first | with_reducible exact hbe (by assumption) | with_reducible exact hah (by assumption) | with_reducible exact hle (by assumption) | with_reducible exact hup (by assumption) | with_reducible exact x41 | with_reducible exact cle (by assumption) _ _ _)); (case q3 => decide); (case q4 => decide); (((case kB => k_asm); (case kF => k_asm); (case kX => k_asm); (case kN => k_asm); (case kT => k_asm); (case kk => first | assumption | exact rfl); (case kd => first | (first | lia | omega) | ((try simp only [depth_deeper]); (first | lia | omega)) | ktr_room); (case ku => first | (first | lia | omega) | ((try simp only [units_deeper]); (first | lia | omega)) | ktr_units))); ((intro qh' qtk' qt' qhtk' qF' qN')))) | ((with_reducible show wpAny _ _ (subscriptTail (Expr.Name _ _) (Expr.Name _ _) (Value.ref _) (Value.int _ _)) _ _ _); (k_here; (with_reducible rename News _ _ _ _ => kN); k_dflt (first | refine item_mem (l := [_, _, _, _]) kN (by k_mem) (by (first | lia | omega)) (by (first | lia | omega)) (by assumption) ?_ | refine item_mem (l := [_, _, _]) kN (by k_mem) (by (first | lia | omega)) (by (first | lia | omega)) (by assumption) ?_))) | (k_unfold; (try dsimp only)) | (k_end; wrow_close) | walk1 | (dsimp only; walk1) | (leave1; walk_say "STEP leave1"; try dsimp only) | fail "no step")))))
  rotate_left
  · exact absurd (h34 LF) (by assumption)
  (repeat' ( (fail_if_success (with_reducible show wpAny _ _ (execs (_ :: _) _) _ _ _)); (first | ((refine fun (qhz : Nat.le _ _) => ?_); (try simp only [Nat.le_eq] at qhz)) | ((with_reducible show wpAny _ _ (call (Value.builtin "str.upper") _) _ _ _); (k_here; (try dsimp only); k_dflt (refine SCL.upper (upfit5 (by assumption)) ?_; intro _))) | ((with_reducible show wpAny _ _ (binaryOp Operator.Add (Value.str _ _) (Value.str _ _)) _ _ _); ((refine SBL.add (hsz := ?hsz) ?_); (case hsz => first | with_reducible exact hadd1 (by assumption) | with_reducible exact hadd2 (by assumption) | with_reducible exact hadd3 (by assumption)); intro _ _ _)) | ((with_reducible show wpAny _ _ (call (Value.ref 28) _) _ _ _); (k_here; (with_reducible show wpAny _ _ (call (Value.ref 28) _) _ _ _); refine' useNV (lev_ok _ _ _ _ _ _ _ ?q1 ?q2 ?q3 ?q4) ?kB ?kF ?kX ?kN ?kT ?kk ?kd ?ku ?_; (case q1 => (first | with_reducible exact hbe (by assumption) | with_reducible exact hah (by assumption) | with_reducible exact hle (by assumption) | with_reducible exact hup (by assumption) | with_reducible exact x41 | with_reducible exact cle (by assumption) _ _ _)); (case q2 => (first | with_reducible exact hbe (by assumption) | with_reducible exact hah (by assumption) | with_reducible exact hle (by assumption) | with_reducible exact hup (by assumption) | with_reducible exact x41 | with_reducible exact cle (by assumption) _ _ _)); (case q3 => decide); (case q4 => decide); (((case kB => k_asm); (case kF => k_asm); (case kX => k_asm); (case kN => k_asm); (case kT => k_asm); (case kk => first | assumption | exact rfl); (case kd => first | (first | lia | omega) | ((try simp only [depth_deeper]); (first | lia | omega)) | ktr_room); (case ku => first | (first | lia | omega) | ((try simp only [units_deeper]); (first | lia | omega)) | ktr_units))); ((intro qh' qtk' qt' qhtk' qF' qN')))) | ((with_reducible show wpAny _ _ (subscriptTail (Expr.Name _ _) (Expr.Name _ _) (Value.ref _) (Value.int _ _)) _ _ _); (k_here; (with_reducible rename News _ _ _ _ => kN); k_dflt (first | refine item_mem (l := [_, _, _, _]) kN (by k_mem) (by (first | lia | omega)) (by (first | lia | omega)) (by assumption) ?_ | refine item_mem (l := [_, _, _]) kN (by k_mem) (by (first | lia | omega)) (by (first | lia | omega)) (by assumption) ?_))) | (k_unfold; (try dsimp only)) | (k_end; wrow_close) | walk1 | (dsimp only; walk1) | (leave1; walk_say "STEP leave1"; try dsimp only) | fail "no step")))
  (((try dsimp only); refine toks_ge ?_; intro qkt' qhkt'; (try dsimp only)))
  (rename Fr _ _ _ _ => kF); (rename News _ _ _ _ => kN)
  exact h6 _ _ _ (by (first | lia | omega)) rfl kF (newsSub kN fun z hz => List.mem_cons_of_mem _ (List.mem_cons_of_mem _ (List.mem_cons_of_mem _ (List.mem_cons_of_mem _ hz))))

end Mine
end

section
open PySem PySem.W PyProof.Rows
set_option maxRecDepth 100000
namespace Mine
-- a local whose value a fact tells

local macro_rules | `(tactic| walk_at "eval Call") => `(tactic| ((with_reducible show wpAny _ _ (eval (Expr.Call (Expr.Name _ _) _ [] _) (envOfC _ _ _ _ _)) _ _ _); k_dflt (refine Call_ ?_)))
theorem three_str {W : Nat → Str} {i : Nat} {v : Value} {a b c : Tok} (h : [Value.str (W 0) a, .str (W 1) b, .str (W 2) c][i]? = some v) : i < 3 ∧ ∃ t, v = .str (W i) t := by
  rcases i with _ | _ | _ | i
  · simp at h; exact ⟨by decide, a, h.symm⟩
  · simp at h; exact ⟨by decide, b, h.symm⟩
  · simp at h; exact ⟨by decide, c, h.symm⟩
  · simp at h
theorem three_ofI {ys : List Value} {f : Nat → Int} (hl : ys.length = 3) (h : ∀ i y, ys[i]? = some y → ∃ t, y = Value.int (f i) t) : ∃ a b c, ys = [.int (f 0) a, .int (f 1) b, .int (f 2) c] := by
  rcases ys with _ | ⟨y0, _ | ⟨y1, _ | ⟨y2, _ | ⟨y3, ys⟩⟩⟩⟩
  · simp at hl
  · simp at hl
  · simp at hl
  · obtain ⟨a, rfl⟩ := h 0 y0 rfl
    obtain ⟨b, rfl⟩ := h 1 y1 rfl
    obtain ⟨c, rfl⟩ := h 2 y2 rfl
    exact ⟨a, b, c, rfl⟩
  · simp at hl
set_option maxHeartbeats 16000000 in
theorem law_6 (w : World) (x0 x1 x2 x3 : Int) (hx3 : 0 ≤ x3) (U V : Nat) (ri fa : Int) (hri : ri = 1 ∨ ri = 2) (hfa : fa = 1 ∨ fa = 2) (W T : Nat → Str) (H : Nat → Nat → Nat → Int) (LF : LawF U V ri fa W T H)
    (dp un : Nat) (gd : Option (List Code)) (fn : Addr) (ccd : Value) (outer : List Env) (A₀ : Around) (base h₀ h : Heap) (L D Dw Dt Dh : Addr) (m : FMap) (o1 o2 o3 o4 o5 o6 : Obj) (t0 t1 t2 t3 tu tv tr tf wt0 wt1 wt2 yt0 yt1 yt2 tR tn : Tok) (cD k c : Nat)
    (s : Shared) (Q : Flow → Shared → Prop) (E : Value → Shared → Prop) (mean : ExcName → Option Value) (mg mb : FMap)
    (B : Below A₀ base outer h₀) (X : (KK w.params).In h₀) (Tp : Top qv (looseW qv loose0) mean mg mb h₀)
    (d1 : o1.data = .cell (some (.ref D))) (d2 : o2.data = .cell (some (.str ⟨#[U]⟩ tu))) (d3 : o3.data = .cell (some (.str ⟨#[V]⟩ tv))) (d4 : o4.data = .cell (some (.int ri tr))) (d5 : o5.data = .cell (some (.int fa tf))) (d6 : o6.data = .cell (some (.ref Dw)))
    (hd : dp + 40 < recursionLimit) (hu : un + 800 < cLine) (hu0 : @Ne Nat tu 0) (hv0 : @Ne Nat tv 0) (huk : @LT.lt Nat _ tu k) (hvk : @LT.lt Nat _ tv k)
    (hE : PassesOwn (model r0.prog w) (ktrTop dp un gd (Str.ofString "law") d26.scope L fn ccd (cellsFrom (L + 1) d26.scope.names []) outer) (envOfC (Str.ofString "law") d26.scope L fn ccd) E) (vs : List Value) (hI : IntsAre vs (six H)) (hT : HT vs k)
    (F : Fr h₀ L h (fun z => if z = Str.ofString "heights" then some (Value.ref Dh) else m z))
    (N : News h₀ L h [(Dh, listOf (List.toArray vs) c), (Dt, LCg.lst [.str (T 0) yt0, .str (T 1) yt1, .str (T 2) yt2]), (Dw, LCg.lst [.str (W 0) wt0, .str (W 1) wt1, .str (W 2) wt2]), (D, listOf #[.int x0 t0, .int x1 t1, .int x2 t2, .int x3 t3] cD), (L + 1 + 1 + 1 + 1 + 1 + 1, o6), (L + 1 + 1 + 1 + 1 + 1, o5), (L + 1 + 1 + 1 + 1, o4), (L + 1 + 1 + 1, o3), (L + 1 + 1, o2), (L + 1, o1)])
    (h7 : ∀ (Dr : Addr) (cr : Nat) (rs : List Value) (h' : Heap) (tk : Tok) (m' : FMap), IntsAre rs (ringsL (stepW U V ri fa (W 0)) (stepW U V ri fa (W 1)) (stepW U V ri fa (W 2))) → RT rs k → (@LE.le Nat _ k tk) → (@Ne Nat Dh Dr) → m' (Str.ofString "heights") = some (.ref Dh) → m' (Str.ofString "rings") = some (.ref Dr) → Fr h₀ L h' m' → News h₀ L h' [(Dr, listOf (List.toArray rs) cr), (Dh, listOf (List.toArray vs) c)] → wpAny (model r0.prog w) (ktrTop dp un gd (Str.ofString "law") d26.scope L fn ccd (cellsFrom (L + 1) d26.scope.names []) outer) (execs (d26.body.drop 21) (envOfC (Str.ofString "law") d26.scope L fn ccd)) Q E ⟨h', s.gens, s.drawn, tk, s.os⟩) :
    wpAny (model r0.prog w) (ktrTop dp un gd (Str.ofString "law") d26.scope L fn ccd (cellsFrom (L + 1) d26.scope.names []) outer) (execs (d26.body.drop 18) (envOfC (Str.ofString "law") d26.scope L fn ccd)) Q E ⟨h, s.gens, s.drawn, k, s.os⟩ := by
  revert h7
  delta d26
  dsimp only [List.drop]
  revert X
  k_fill
  intro X h7
  refine wpAny_execs_cons ?_
  with_reducible refine any_toks ?_
  (repeat' ( (fail_if_success (with_reducible show wpAny _ _ (eval (Expr.ListComp _ _ _ _) _) _ _ _)); (first | ((refine fun (qhz : Nat.le _ _) => ?_); (try simp only [Nat.le_eq] at qhz)) | ((with_reducible show wpAny _ _ (call (Value.ref 70) [Value.str _ _, _]) _ _ _); (k_here; (with_reducible show wpAny _ _ (call (Value.ref 70) [Value.str _ _, _]) _ _ _); refine' useTV (countS_ok _ _ _ _ _ (wle (by assumption) _) (by assumption)) ?kB ?kF ?kX ?kN ?kT ?kk ?kd ?ku ?hpre ?_; (case hpre => (show @LT.lt Nat _ _ _); (try dsimp only); (first | lia | omega)); (((case kB => k_asm); (case kF => k_asm); (case kX => k_asm); (case kN => k_asm); (case kT => k_asm); (case kk => first | assumption | exact rfl); (case kd => first | (first | lia | omega) | ((try simp only [depth_deeper]); (first | lia | omega)) | ktr_room); (case ku => first | (first | lia | omega) | ((try simp only [units_deeper]); (first | lia | omega)) | ktr_units))); ((intro qh' qtk' qt' qhtk' qF' qN'; (try dsimp only at qhtk'))))) | ((with_reducible show wpAny _ _ (call (Value.ref 179) _) _ _ _); (k_here; (with_reducible show wpAny _ _ (call (Value.ref 179) _) _ _ _); refine' useTP (above_okT _ _ _) ?kB ?kF ?kX ?kN ?kT ?kk ?kd ?ku True.intro ?_; (((case kB => k_asm); (case kF => k_asm); (case kX => k_asm); (case kN => k_asm); (case kT => k_asm); (case kk => first | assumption | exact rfl); (case kd => first | (first | lia | omega) | ((try simp only [depth_deeper]); (first | lia | omega)) | ktr_room); (case ku => first | (first | lia | omega) | ((try simp only [units_deeper]); (first | lia | omega)) | ktr_units))); ((intro qh' qtk' qt' qhtk' qe3' qF' qN'; (try dsimp only at qe3'); (first | replace qe3' : @LE.le Nat _ _ _ := qe3' | replace qe3' : (@Eq Nat _ _) ∨ (@LE.le Nat _ _ _) := qe3'); (try dsimp only at qhtk'))))) | ((with_reducible show wpAny _ _ (call (Value.ref 42) _) _ _ _); (k_here; (with_reducible show wpAny _ _ (call (Value.ref 42) _) _ _ _); refine' useTP (add_okT _ _ _ _ _) ?kB ?kF ?kX ?kN ?kT ?kk ?kd ?ku True.intro ?_; (((case kB => k_asm); (case kF => k_asm); (case kX => k_asm); (case kN => k_asm); (case kT => k_asm); (case kk => first | assumption | exact rfl); (case kd => first | (first | lia | omega) | ((try simp only [depth_deeper]); (first | lia | omega)) | ktr_room); (case ku => first | (first | lia | omega) | ((try simp only [units_deeper]); (first | lia | omega)) | ktr_units))); ((intro qh' qtk' qt' qhtk' qe3' qF' qN'; (try dsimp only at qe3'); (first | replace qe3' : @LE.le Nat _ _ _ := qe3' | replace qe3' : (@Eq Nat _ _) ∨ (@LE.le Nat _ _ _) := qe3'); (try dsimp only at qhtk'))))) | ((with_reducible show wpAny _ _ (call (Value.ref 56) _) _ _ _); (k_here; (with_reducible show wpAny _ _ (call (Value.ref 56) _) _ _ _); refine' useNV (subt_ok _ _ _ _ _) ?kB ?kF ?kX ?kN ?kT ?kk ?kd ?ku ?_; (((case kB => k_asm); (case kF => k_asm); (case kX => k_asm); (case kN => k_asm); (case kT => k_asm); (case kk => first | assumption | exact rfl); (case kd => first | (first | lia | omega) | ((try simp only [depth_deeper]); (first | lia | omega)) | ktr_room); (case ku => first | (first | lia | omega) | ((try simp only [units_deeper]); (first | lia | omega)) | ktr_units))); ((intro qh' qtk' qt' qhtk' qF' qN'; (try dsimp only at qhtk'))))) | ((with_reducible show wpAny _ _ (call (Value.ref 49) _) _ _ _); (k_here; (with_reducible show wpAny _ _ (call (Value.ref 49) _) _ _ _); refine' useNV (mul_ok _ _ _ _ _ (by assumption)) ?kB ?kF ?kX ?kN ?kT ?kk ?kd ?ku ?_; (((case kB => k_asm); (case kF => k_asm); (case kX => k_asm); (case kN => k_asm); (case kT => k_asm); (case kk => first | assumption | exact rfl); (case kd => first | (first | lia | omega) | ((try simp only [depth_deeper]); (first | lia | omega)) | ktr_room); (case ku => first | (first | lia | omega) | ((try simp only [units_deeper]); (first | lia | omega)) | ktr_units))); ((intro qh' qtk' qt' qhtk' qF' qN'; (try dsimp only at qhtk'))))) | ((with_reducible show wpAny _ _ (subscriptTail (Expr.Name _ _) (Expr.Name _ _) (Value.ref _) (Value.int _ _)) _ _ _); (k_here; (with_reducible rename News _ _ _ _ => kN); k_dflt (first | refine item_mem (l := [_, _, _, _]) kN (by k_mem) (by (first | lia | omega)) (by (first | lia | omega)) (by assumption) ?_ | refine item_mem (l := [_, _, _]) kN (by k_mem) (by (first | lia | omega)) (by (first | lia | omega)) (by assumption) ?_))) | (k_unfold; (try dsimp only)) | (k_end; wrow_close) | walk1 | (dsimp only; walk1) | (leave1; walk_say "STEP leave1"; try dsimp only) | fail "no step")))
  refine' ListComp_T (fun i y => ∃ t, y = .int (stepW U V ri fa (W i)) t) ?hF ?hclos ?hcell ?hkind ?hnames ?hx ?_ ?hs
  (((case hclos => with_unfolding_all rfl); (case hcell => decide); (case hkind => rfl); (case hnames => decide); (case hx => decide); (case hF => k_asm); (case hs => intro _; rfl)))
  (repeat' ( (fail_if_success (with_reducible show Exists _)); (first | ((with_reducible show wpAny _ _ (call (Value.ref 70) [Value.str _ _, _]) _ _ _); (k_here; (with_reducible show wpAny _ _ (call (Value.ref 70) [Value.str _ _, _]) _ _ _); refine' useTV (countS_ok _ _ _ _ _ (wle (by assumption) _) (by assumption)) ?kB ?kF ?kX ?kN ?kT ?kk ?kd ?ku ?hpre ?_; (case hpre => (show @LT.lt Nat _ _ _); (try dsimp only); (first | lia | omega)); (((case kB => k_asm); (case kF => k_asm); (case kX => k_asm); (case kN => k_asm); (case kT => k_asm); (case kk => first | assumption | exact rfl); (case kd => first | (first | lia | omega) | ((try simp only [depth_deeper]); (first | lia | omega)) | ktr_room); (case ku => first | (first | lia | omega) | ((try simp only [units_deeper]); (first | lia | omega)) | ktr_units))); ((intro qh' qtk' qt' qhtk' qF' qN'; (try dsimp only at qhtk'))))) | ((with_reducible show wpAny _ _ (call (Value.ref 179) _) _ _ _); (k_here; (with_reducible show wpAny _ _ (call (Value.ref 179) _) _ _ _); refine' useTP (above_okT _ _ _) ?kB ?kF ?kX ?kN ?kT ?kk ?kd ?ku True.intro ?_; (((case kB => k_asm); (case kF => k_asm); (case kX => k_asm); (case kN => k_asm); (case kT => k_asm); (case kk => first | assumption | exact rfl); (case kd => first | (first | lia | omega) | ((try simp only [depth_deeper]); (first | lia | omega)) | ktr_room); (case ku => first | (first | lia | omega) | ((try simp only [units_deeper]); (first | lia | omega)) | ktr_units))); ((intro qh' qtk' qt' qhtk' qe3' qF' qN'; (try dsimp only at qe3'); (first | replace qe3' : @LE.le Nat _ _ _ := qe3' | replace qe3' : (@Eq Nat _ _) ∨ (@LE.le Nat _ _ _) := qe3'); (try dsimp only at qhtk'))))) | ((with_reducible show wpAny _ _ (call (Value.ref 42) _) _ _ _); (k_here; (with_reducible show wpAny _ _ (call (Value.ref 42) _) _ _ _); refine' useTP (add_okT _ _ _ _ _) ?kB ?kF ?kX ?kN ?kT ?kk ?kd ?ku True.intro ?_; (((case kB => k_asm); (case kF => k_asm); (case kX => k_asm); (case kN => k_asm); (case kT => k_asm); (case kk => first | assumption | exact rfl); (case kd => first | (first | lia | omega) | ((try simp only [depth_deeper]); (first | lia | omega)) | ktr_room); (case ku => first | (first | lia | omega) | ((try simp only [units_deeper]); (first | lia | omega)) | ktr_units))); ((intro qh' qtk' qt' qhtk' qe3' qF' qN'; (try dsimp only at qe3'); (first | replace qe3' : @LE.le Nat _ _ _ := qe3' | replace qe3' : (@Eq Nat _ _) ∨ (@LE.le Nat _ _ _) := qe3'); (try dsimp only at qhtk'))))) | ((with_reducible show wpAny _ _ (call (Value.ref 56) _) _ _ _); (k_here; (with_reducible show wpAny _ _ (call (Value.ref 56) _) _ _ _); refine' useNV (subt_ok _ _ _ _ _) ?kB ?kF ?kX ?kN ?kT ?kk ?kd ?ku ?_; (((case kB => k_asm); (case kF => k_asm); (case kX => k_asm); (case kN => k_asm); (case kT => k_asm); (case kk => first | assumption | exact rfl); (case kd => first | (first | lia | omega) | ((try simp only [depth_deeper]); (first | lia | omega)) | ktr_room); (case ku => first | (first | lia | omega) | ((try simp only [units_deeper]); (first | lia | omega)) | ktr_units))); ((intro qh' qtk' qt' qhtk' qF' qN'; (try dsimp only at qhtk'))))) | ((with_reducible show wpAny _ _ (call (Value.ref 49) _) _ _ _); (k_here; (with_reducible show wpAny _ _ (call (Value.ref 49) _) _ _ _); refine' useNV (mul_ok _ _ _ _ _ (by assumption)) ?kB ?kF ?kX ?kN ?kT ?kk ?kd ?ku ?_; (((case kB => k_asm); (case kF => k_asm); (case kX => k_asm); (case kN => k_asm); (case kT => k_asm); (case kk => first | assumption | exact rfl); (case kd => first | (first | lia | omega) | ((try simp only [depth_deeper]); (first | lia | omega)) | ktr_room); (case ku => first | (first | lia | omega) | ((try simp only [units_deeper]); (first | lia | omega)) | ktr_units))); ((intro qh' qtk' qt' qhtk' qF' qN'; (try dsimp only at qhtk'))))) | ((with_reducible show wpAny _ _ (subscriptTail (Expr.Name _ _) (Expr.Name _ _) (Value.ref _) (Value.int _ _)) _ _ _); (k_here; (with_reducible rename News _ _ _ _ => kN); k_dflt (first | refine item_mem (l := [_, _, _, _]) kN (by k_mem) (by (first | lia | omega)) (by (first | lia | omega)) (by assumption) ?_ | refine item_mem (l := [_, _, _]) kN (by k_mem) (by (first | lia | omega)) (by (first | lia | omega)) (by assumption) ?_))) | (k_unfold; (try dsimp only)) | (k_end; wrow_close) | walk1 | (dsimp only; walk1) | (leave1; walk_say "STEP leave1"; try dsimp only) | fail "no step")))
  refine ⟨_, [_, _, _], _, _, rfl, (by first | rfl | exact True.intro), by k_asm, by k_asm, by k_mem, Nat.le_of_ble_eq_true rfl, ?turn, ?fin⟩
  case turn =>
    intro i v I oI C oC D' m₂ h tk ys E' hi htk hC hk F N off ne
    obtain ⟨hi3, tw, rfl⟩ := three_str hi
    simp only [LCg.Off3, and_true] at off
    (try dsimp only at htk)
    (repeat' ( (fail_if_success (with_reducible show ElT _ _ _ _ _ _ _ _)); (first | ((with_reducible show wpAny _ _ (call (Value.ref 70) [Value.str _ _, _]) _ _ _); (k_here; (with_reducible show wpAny _ _ (call (Value.ref 70) [Value.str _ _, _]) _ _ _); refine' useTV (countS_ok _ _ _ _ _ (wle (by assumption) _) (by assumption)) ?kB ?kF ?kX ?kN ?kT ?kk ?kd ?ku ?hpre ?_; (case hpre => (show @LT.lt Nat _ _ _); (try dsimp only); (first | lia | omega)); (((case kB => k_asm); (case kF => k_asm); (case kX => k_asm); (case kN => k_asm); (case kT => k_asm); (case kk => first | assumption | exact rfl); (case kd => first | (first | lia | omega) | ((try simp only [depth_deeper]); (first | lia | omega)) | ktr_room); (case ku => first | (first | lia | omega) | ((try simp only [units_deeper]); (first | lia | omega)) | ktr_units))); ((intro qh' qtk' qt' qhtk' qF' qN'; (try dsimp only at qhtk'))))) | ((with_reducible show wpAny _ _ (call (Value.ref 179) _) _ _ _); (k_here; (with_reducible show wpAny _ _ (call (Value.ref 179) _) _ _ _); refine' useTP (above_okT _ _ _) ?kB ?kF ?kX ?kN ?kT ?kk ?kd ?ku True.intro ?_; (((case kB => k_asm); (case kF => k_asm); (case kX => k_asm); (case kN => k_asm); (case kT => k_asm); (case kk => first | assumption | exact rfl); (case kd => first | (first | lia | omega) | ((try simp only [depth_deeper]); (first | lia | omega)) | ktr_room); (case ku => first | (first | lia | omega) | ((try simp only [units_deeper]); (first | lia | omega)) | ktr_units))); ((intro qh' qtk' qt' qhtk' qe3' qF' qN'; (try dsimp only at qe3'); (first | replace qe3' : @LE.le Nat _ _ _ := qe3' | replace qe3' : (@Eq Nat _ _) ∨ (@LE.le Nat _ _ _) := qe3'); (try dsimp only at qhtk'))))) | ((with_reducible show wpAny _ _ (call (Value.ref 42) _) _ _ _); (k_here; (with_reducible show wpAny _ _ (call (Value.ref 42) _) _ _ _); refine' useTP (add_okT _ _ _ _ _) ?kB ?kF ?kX ?kN ?kT ?kk ?kd ?ku True.intro ?_; (((case kB => k_asm); (case kF => k_asm); (case kX => k_asm); (case kN => k_asm); (case kT => k_asm); (case kk => first | assumption | exact rfl); (case kd => first | (first | lia | omega) | ((try simp only [depth_deeper]); (first | lia | omega)) | ktr_room); (case ku => first | (first | lia | omega) | ((try simp only [units_deeper]); (first | lia | omega)) | ktr_units))); ((intro qh' qtk' qt' qhtk' qe3' qF' qN'; (try dsimp only at qe3'); (first | replace qe3' : @LE.le Nat _ _ _ := qe3' | replace qe3' : (@Eq Nat _ _) ∨ (@LE.le Nat _ _ _) := qe3'); (try dsimp only at qhtk'))))) | ((with_reducible show wpAny _ _ (call (Value.ref 56) _) _ _ _); (k_here; (with_reducible show wpAny _ _ (call (Value.ref 56) _) _ _ _); refine' useNV (subt_ok _ _ _ _ _) ?kB ?kF ?kX ?kN ?kT ?kk ?kd ?ku ?_; (((case kB => k_asm); (case kF => k_asm); (case kX => k_asm); (case kN => k_asm); (case kT => k_asm); (case kk => first | assumption | exact rfl); (case kd => first | (first | lia | omega) | ((try simp only [depth_deeper]); (first | lia | omega)) | ktr_room); (case ku => first | (first | lia | omega) | ((try simp only [units_deeper]); (first | lia | omega)) | ktr_units))); ((intro qh' qtk' qt' qhtk' qF' qN'; (try dsimp only at qhtk'))))) | ((with_reducible show wpAny _ _ (call (Value.ref 49) _) _ _ _); (k_here; (with_reducible show wpAny _ _ (call (Value.ref 49) _) _ _ _); refine' useNV (mul_ok _ _ _ _ _ (by assumption)) ?kB ?kF ?kX ?kN ?kT ?kk ?kd ?ku ?_; (((case kB => k_asm); (case kF => k_asm); (case kX => k_asm); (case kN => k_asm); (case kT => k_asm); (case kk => first | assumption | exact rfl); (case kd => first | (first | lia | omega) | ((try simp only [depth_deeper]); (first | lia | omega)) | ktr_room); (case ku => first | (first | lia | omega) | ((try simp only [units_deeper]); (first | lia | omega)) | ktr_units))); ((intro qh' qtk' qt' qhtk' qF' qN'; (try dsimp only at qhtk'))))) | ((with_reducible show wpAny _ _ (subscriptTail (Expr.Name _ _) (Expr.Name _ _) (Value.ref _) (Value.int _ _)) _ _ _); (k_here; (with_reducible rename News _ _ _ _ => kN); k_dflt (first | refine item_mem (l := [_, _, _, _]) kN (by k_mem) (by (first | lia | omega)) (by (first | lia | omega)) (by assumption) ?_ | refine item_mem (l := [_, _, _]) kN (by k_mem) (by (first | lia | omega)) (by (first | lia | omega)) (by assumption) ?_))) | (k_unfold; (try dsimp only)) | (k_end; wrow_close) | walk1 | (dsimp only; walk1) | (leave1; walk_say "STEP leave1"; try dsimp only) | fail "no step")))
    (show ElT _ _ _ _ _ _ _ _)
    exact ⟨_, _, rfl, by k_asm, by (first | k_asm | (refine' cb_drop ?zN ?zS; (case zN => assumption); (case zS => kcj_all))), _, rfl⟩
  case fin =>
    intro D' h' tk ys htk hlen hR F' N' off
    obtain ⟨ta, tb, tc, rfl⟩ := three_ofI hlen hR
    (try dsimp only)
    (((try dsimp only); refine toks_ge ?_; intro qkt' qhkt'; (try dsimp only)))
    (repeat' ( (fail_if_success (with_reducible show wpAny _ _ (execs (_ :: _) _) _ _ _)); (first | ((refine fun (qhz : Nat.le _ _) => ?_); (try simp only [Nat.le_eq] at qhz)) | ((with_reducible show wpAny _ _ (call (Value.ref 70) [Value.str _ _, _]) _ _ _); (k_here; (with_reducible show wpAny _ _ (call (Value.ref 70) [Value.str _ _, _]) _ _ _); refine' useTV (countS_ok _ _ _ _ _ (wle (by assumption) _) (by assumption)) ?kB ?kF ?kX ?kN ?kT ?kk ?kd ?ku ?hpre ?_; (case hpre => (show @LT.lt Nat _ _ _); (try dsimp only); (first | lia | omega)); (((case kB => k_asm); (case kF => k_asm); (case kX => k_asm); (case kN => k_asm); (case kT => k_asm); (case kk => first | assumption | exact rfl); (case kd => first | (first | lia | omega) | ((try simp only [depth_deeper]); (first | lia | omega)) | ktr_room); (case ku => first | (first | lia | omega) | ((try simp only [units_deeper]); (first | lia | omega)) | ktr_units))); ((intro qh' qtk' qt' qhtk' qF' qN'; (try dsimp only at qhtk'))))) | ((with_reducible show wpAny _ _ (call (Value.ref 179) _) _ _ _); (k_here; (with_reducible show wpAny _ _ (call (Value.ref 179) _) _ _ _); refine' useTP (above_okT _ _ _) ?kB ?kF ?kX ?kN ?kT ?kk ?kd ?ku True.intro ?_; (((case kB => k_asm); (case kF => k_asm); (case kX => k_asm); (case kN => k_asm); (case kT => k_asm); (case kk => first | assumption | exact rfl); (case kd => first | (first | lia | omega) | ((try simp only [depth_deeper]); (first | lia | omega)) | ktr_room); (case ku => first | (first | lia | omega) | ((try simp only [units_deeper]); (first | lia | omega)) | ktr_units))); ((intro qh' qtk' qt' qhtk' qe3' qF' qN'; (try dsimp only at qe3'); (first | replace qe3' : @LE.le Nat _ _ _ := qe3' | replace qe3' : (@Eq Nat _ _) ∨ (@LE.le Nat _ _ _) := qe3'); (try dsimp only at qhtk'))))) | ((with_reducible show wpAny _ _ (call (Value.ref 42) _) _ _ _); (k_here; (with_reducible show wpAny _ _ (call (Value.ref 42) _) _ _ _); refine' useTP (add_okT _ _ _ _ _) ?kB ?kF ?kX ?kN ?kT ?kk ?kd ?ku True.intro ?_; (((case kB => k_asm); (case kF => k_asm); (case kX => k_asm); (case kN => k_asm); (case kT => k_asm); (case kk => first | assumption | exact rfl); (case kd => first | (first | lia | omega) | ((try simp only [depth_deeper]); (first | lia | omega)) | ktr_room); (case ku => first | (first | lia | omega) | ((try simp only [units_deeper]); (first | lia | omega)) | ktr_units))); ((intro qh' qtk' qt' qhtk' qe3' qF' qN'; (try dsimp only at qe3'); (first | replace qe3' : @LE.le Nat _ _ _ := qe3' | replace qe3' : (@Eq Nat _ _) ∨ (@LE.le Nat _ _ _) := qe3'); (try dsimp only at qhtk'))))) | ((with_reducible show wpAny _ _ (call (Value.ref 56) _) _ _ _); (k_here; (with_reducible show wpAny _ _ (call (Value.ref 56) _) _ _ _); refine' useNV (subt_ok _ _ _ _ _) ?kB ?kF ?kX ?kN ?kT ?kk ?kd ?ku ?_; (((case kB => k_asm); (case kF => k_asm); (case kX => k_asm); (case kN => k_asm); (case kT => k_asm); (case kk => first | assumption | exact rfl); (case kd => first | (first | lia | omega) | ((try simp only [depth_deeper]); (first | lia | omega)) | ktr_room); (case ku => first | (first | lia | omega) | ((try simp only [units_deeper]); (first | lia | omega)) | ktr_units))); ((intro qh' qtk' qt' qhtk' qF' qN'; (try dsimp only at qhtk'))))) | ((with_reducible show wpAny _ _ (call (Value.ref 49) _) _ _ _); (k_here; (with_reducible show wpAny _ _ (call (Value.ref 49) _) _ _ _); refine' useNV (mul_ok _ _ _ _ _ (by assumption)) ?kB ?kF ?kX ?kN ?kT ?kk ?kd ?ku ?_; (((case kB => k_asm); (case kF => k_asm); (case kX => k_asm); (case kN => k_asm); (case kT => k_asm); (case kk => first | assumption | exact rfl); (case kd => first | (first | lia | omega) | ((try simp only [depth_deeper]); (first | lia | omega)) | ktr_room); (case ku => first | (first | lia | omega) | ((try simp only [units_deeper]); (first | lia | omega)) | ktr_units))); ((intro qh' qtk' qt' qhtk' qF' qN'; (try dsimp only at qhtk'))))) | ((with_reducible show wpAny _ _ (subscriptTail (Expr.Name _ _) (Expr.Name _ _) (Value.ref _) (Value.int _ _)) _ _ _); (k_here; (with_reducible rename News _ _ _ _ => kN); k_dflt (first | refine item_mem (l := [_, _, _, _]) kN (by k_mem) (by (first | lia | omega)) (by (first | lia | omega)) (by assumption) ?_ | refine item_mem (l := [_, _, _]) kN (by k_mem) (by (first | lia | omega)) (by (first | lia | omega)) (by assumption) ?_))) | (k_unfold; (try dsimp only)) | (k_end; wrow_close) | walk1 | (dsimp only; walk1) | (leave1; walk_say "STEP leave1"; try dsimp only) | fail "no step")))
    (((try dsimp only); refine toks_ge ?_; intro qkt' qhkt'; (try dsimp only)))
    (((refine wpAny_execs_cons ?_); (with_reducible refine any_toks ?_); (repeat' ( (fail_if_success (with_reducible show wpAny _ _ (execs _ _) _ _ _)); (first | ((refine fun (qhz : Nat.le _ _) => ?_); (try simp only [Nat.le_eq] at qhz)) | ((with_reducible show wpAny _ _ (call (Value.ref 70) [Value.str _ _, _]) _ _ _); (k_here; (with_reducible show wpAny _ _ (call (Value.ref 70) [Value.str _ _, _]) _ _ _); refine' useTV (countS_ok _ _ _ _ _ (wle (by assumption) _) (by assumption)) ?kB ?kF ?kX ?kN ?kT ?kk ?kd ?ku ?hpre ?_; (case hpre => (show @LT.lt Nat _ _ _); (try dsimp only); (first | lia | omega)); (((case kB => k_asm); (case kF => k_asm); (case kX => k_asm); (case kN => k_asm); (case kT => k_asm); (case kk => first | assumption | exact rfl); (case kd => first | (first | lia | omega) | ((try simp only [depth_deeper]); (first | lia | omega)) | ktr_room); (case ku => first | (first | lia | omega) | ((try simp only [units_deeper]); (first | lia | omega)) | ktr_units))); ((intro qh' qtk' qt' qhtk' qF' qN'; (try dsimp only at qhtk'))))) | ((with_reducible show wpAny _ _ (call (Value.ref 179) _) _ _ _); (k_here; (with_reducible show wpAny _ _ (call (Value.ref 179) _) _ _ _); refine' useTP (above_okT _ _ _) ?kB ?kF ?kX ?kN ?kT ?kk ?kd ?ku True.intro ?_; (((case kB => k_asm); (case kF => k_asm); (case kX => k_asm); (case kN => k_asm); (case kT => k_asm); (case kk => first | assumption | exact rfl); (case kd => first | (first | lia | omega) | ((try simp only [depth_deeper]); (first | lia | omega)) | ktr_room); (case ku => first | (first | lia | omega) | ((try simp only [units_deeper]); (first | lia | omega)) | ktr_units))); ((intro qh' qtk' qt' qhtk' qe3' qF' qN'; (try dsimp only at qe3'); (first | replace qe3' : @LE.le Nat _ _ _ := qe3' | replace qe3' : (@Eq Nat _ _) ∨ (@LE.le Nat _ _ _) := qe3'); (try dsimp only at qhtk'))))) | ((with_reducible show wpAny _ _ (call (Value.ref 42) _) _ _ _); (k_here; (with_reducible show wpAny _ _ (call (Value.ref 42) _) _ _ _); refine' useTP (add_okT _ _ _ _ _) ?kB ?kF ?kX ?kN ?kT ?kk ?kd ?ku True.intro ?_; (((case kB => k_asm); (case kF => k_asm); (case kX => k_asm); (case kN => k_asm); (case kT => k_asm); (case kk => first | assumption | exact rfl); (case kd => first | (first | lia | omega) | ((try simp only [depth_deeper]); (first | lia | omega)) | ktr_room); (case ku => first | (first | lia | omega) | ((try simp only [units_deeper]); (first | lia | omega)) | ktr_units))); ((intro qh' qtk' qt' qhtk' qe3' qF' qN'; (try dsimp only at qe3'); (first | replace qe3' : @LE.le Nat _ _ _ := qe3' | replace qe3' : (@Eq Nat _ _) ∨ (@LE.le Nat _ _ _) := qe3'); (try dsimp only at qhtk'))))) | ((with_reducible show wpAny _ _ (call (Value.ref 56) _) _ _ _); (k_here; (with_reducible show wpAny _ _ (call (Value.ref 56) _) _ _ _); refine' useNV (subt_ok _ _ _ _ _) ?kB ?kF ?kX ?kN ?kT ?kk ?kd ?ku ?_; (((case kB => k_asm); (case kF => k_asm); (case kX => k_asm); (case kN => k_asm); (case kT => k_asm); (case kk => first | assumption | exact rfl); (case kd => first | (first | lia | omega) | ((try simp only [depth_deeper]); (first | lia | omega)) | ktr_room); (case ku => first | (first | lia | omega) | ((try simp only [units_deeper]); (first | lia | omega)) | ktr_units))); ((intro qh' qtk' qt' qhtk' qF' qN'; (try dsimp only at qhtk'))))) | ((with_reducible show wpAny _ _ (call (Value.ref 49) _) _ _ _); (k_here; (with_reducible show wpAny _ _ (call (Value.ref 49) _) _ _ _); refine' useNV (mul_ok _ _ _ _ _ (by assumption)) ?kB ?kF ?kX ?kN ?kT ?kk ?kd ?ku ?_; (((case kB => k_asm); (case kF => k_asm); (case kX => k_asm); (case kN => k_asm); (case kT => k_asm); (case kk => first | assumption | exact rfl); (case kd => first | (first | lia | omega) | ((try simp only [depth_deeper]); (first | lia | omega)) | ktr_room); (case ku => first | (first | lia | omega) | ((try simp only [units_deeper]); (first | lia | omega)) | ktr_units))); ((intro qh' qtk' qt' qhtk' qF' qN'; (try dsimp only at qhtk'))))) | ((with_reducible show wpAny _ _ (subscriptTail (Expr.Name _ _) (Expr.Name _ _) (Value.ref _) (Value.int _ _)) _ _ _); (k_here; (with_reducible rename News _ _ _ _ => kN); k_dflt (first | refine item_mem (l := [_, _, _, _]) kN (by k_mem) (by (first | lia | omega)) (by (first | lia | omega)) (by assumption) ?_ | refine item_mem (l := [_, _, _]) kN (by k_mem) (by (first | lia | omega)) (by (first | lia | omega)) (by assumption) ?_))) | (k_unfold; (try dsimp only)) | (k_end; wrow_close) | walk1 | (dsimp only; walk1) | (leave1; walk_say "STEP leave1"; try dsimp only) | fail "no step")))))
    (rename _ ∨ _ => hdis)
    have hw := or_ge (k := k) hdis (by (first | lia | omega)) (by (first | lia | omega))
    clear hdis
    (((try dsimp only); refine toks_ge ?_; intro qkt' qhkt'; (try dsimp only)))
    (((refine wpAny_execs_cons ?_); (with_reducible refine any_toks ?_); (repeat' ( (fail_if_success (with_reducible show wpAny _ _ (execs _ _) _ _ _)); (first | ((refine fun (qhz : Nat.le _ _) => ?_); (try simp only [Nat.le_eq] at qhz)) | ((with_reducible show wpAny _ _ (call (Value.ref 70) [Value.str _ _, _]) _ _ _); (k_here; (with_reducible show wpAny _ _ (call (Value.ref 70) [Value.str _ _, _]) _ _ _); refine' useTV (countS_ok _ _ _ _ _ (wle (by assumption) _) (by assumption)) ?kB ?kF ?kX ?kN ?kT ?kk ?kd ?ku ?hpre ?_; (case hpre => (show @LT.lt Nat _ _ _); (try dsimp only); (first | lia | omega)); (((case kB => k_asm); (case kF => k_asm); (case kX => k_asm); (case kN => k_asm); (case kT => k_asm); (case kk => first | assumption | exact rfl); (case kd => first | (first | lia | omega) | ((try simp only [depth_deeper]); (first | lia | omega)) | ktr_room); (case ku => first | (first | lia | omega) | ((try simp only [units_deeper]); (first | lia | omega)) | ktr_units))); ((intro qh' qtk' qt' qhtk' qF' qN'; (try dsimp only at qhtk'))))) | ((with_reducible show wpAny _ _ (call (Value.ref 179) _) _ _ _); (k_here; (with_reducible show wpAny _ _ (call (Value.ref 179) _) _ _ _); refine' useTP (above_okT _ _ _) ?kB ?kF ?kX ?kN ?kT ?kk ?kd ?ku True.intro ?_; (((case kB => k_asm); (case kF => k_asm); (case kX => k_asm); (case kN => k_asm); (case kT => k_asm); (case kk => first | assumption | exact rfl); (case kd => first | (first | lia | omega) | ((try simp only [depth_deeper]); (first | lia | omega)) | ktr_room); (case ku => first | (first | lia | omega) | ((try simp only [units_deeper]); (first | lia | omega)) | ktr_units))); ((intro qh' qtk' qt' qhtk' qe3' qF' qN'; (try dsimp only at qe3'); (first | replace qe3' : @LE.le Nat _ _ _ := qe3' | replace qe3' : (@Eq Nat _ _) ∨ (@LE.le Nat _ _ _) := qe3'); (try dsimp only at qhtk'))))) | ((with_reducible show wpAny _ _ (call (Value.ref 42) _) _ _ _); (k_here; (with_reducible show wpAny _ _ (call (Value.ref 42) _) _ _ _); refine' useTP (add_okT _ _ _ _ _) ?kB ?kF ?kX ?kN ?kT ?kk ?kd ?ku True.intro ?_; (((case kB => k_asm); (case kF => k_asm); (case kX => k_asm); (case kN => k_asm); (case kT => k_asm); (case kk => first | assumption | exact rfl); (case kd => first | (first | lia | omega) | ((try simp only [depth_deeper]); (first | lia | omega)) | ktr_room); (case ku => first | (first | lia | omega) | ((try simp only [units_deeper]); (first | lia | omega)) | ktr_units))); ((intro qh' qtk' qt' qhtk' qe3' qF' qN'; (try dsimp only at qe3'); (first | replace qe3' : @LE.le Nat _ _ _ := qe3' | replace qe3' : (@Eq Nat _ _) ∨ (@LE.le Nat _ _ _) := qe3'); (try dsimp only at qhtk'))))) | ((with_reducible show wpAny _ _ (call (Value.ref 56) _) _ _ _); (k_here; (with_reducible show wpAny _ _ (call (Value.ref 56) _) _ _ _); refine' useNV (subt_ok _ _ _ _ _) ?kB ?kF ?kX ?kN ?kT ?kk ?kd ?ku ?_; (((case kB => k_asm); (case kF => k_asm); (case kX => k_asm); (case kN => k_asm); (case kT => k_asm); (case kk => first | assumption | exact rfl); (case kd => first | (first | lia | omega) | ((try simp only [depth_deeper]); (first | lia | omega)) | ktr_room); (case ku => first | (first | lia | omega) | ((try simp only [units_deeper]); (first | lia | omega)) | ktr_units))); ((intro qh' qtk' qt' qhtk' qF' qN'; (try dsimp only at qhtk'))))) | ((with_reducible show wpAny _ _ (call (Value.ref 49) _) _ _ _); (k_here; (with_reducible show wpAny _ _ (call (Value.ref 49) _) _ _ _); refine' useNV (mul_ok _ _ _ _ _ (by assumption)) ?kB ?kF ?kX ?kN ?kT ?kk ?kd ?ku ?_; (((case kB => k_asm); (case kF => k_asm); (case kX => k_asm); (case kN => k_asm); (case kT => k_asm); (case kk => first | assumption | exact rfl); (case kd => first | (first | lia | omega) | ((try simp only [depth_deeper]); (first | lia | omega)) | ktr_room); (case ku => first | (first | lia | omega) | ((try simp only [units_deeper]); (first | lia | omega)) | ktr_units))); ((intro qh' qtk' qt' qhtk' qF' qN'; (try dsimp only at qhtk'))))) | ((with_reducible show wpAny _ _ (subscriptTail (Expr.Name _ _) (Expr.Name _ _) (Value.ref _) (Value.int _ _)) _ _ _); (k_here; (with_reducible rename News _ _ _ _ => kN); k_dflt (first | refine item_mem (l := [_, _, _, _]) kN (by k_mem) (by (first | lia | omega)) (by (first | lia | omega)) (by assumption) ?_ | refine item_mem (l := [_, _, _]) kN (by k_mem) (by (first | lia | omega)) (by (first | lia | omega)) (by assumption) ?_))) | (k_unfold; (try dsimp only)) | (k_end; wrow_close) | walk1 | (dsimp only; walk1) | (leave1; walk_say "STEP leave1"; try dsimp only) | fail "no step")))))
    (((try dsimp only); refine toks_ge ?_; intro qkt' qhkt'; (try dsimp only)))
    (rename Fr _ _ _ _ => kF); (rename News _ _ _ _ => kN)
    with_reducible refine h7 _ _ [_, _, _, _, _, _] _ _ _ ?_ ?_ ?_ ?_ ?_ ?_ kF (news_two kN)
    · exact .cons _ _ (.cons _ _ (.cons _ _ (.cons _ _ (.cons _ _ (.cons _ _ .nil)))))
    · refine RT6 ?_ ?_ ?_ ?_ ?_ ?_ <;> (first | lia | omega)
    · (first | lia | omega)
    · (first | lia | omega)
    · rfl
    · rfl

end Mine
end

section
open PySem PySem.W PyProof.Rows Mine
local macro_rules | `(tactic| walk_at "CompEnd") => `(tactic| ((with_reducible rename Fr _ _ _ _ => kF); (with_reducible rename News _ _ _ _ => kN); refine compEnd_new kF kN ?c1 ?c2 ?c3 ?_; (case c1 => (dsimp only; (first | lia | omega))); (case c2 => first | assumption | (simp only [LCg.Off3, and_true]; assumption)); (case c3 => exact Or.inr ⟨_, by k_mem, rfl, _, rfl⟩)))
local macro_rules | `(tactic| walk_at "eval Call") => `(tactic| ((with_reducible show wpAny _ _ (eval (Expr.Call (Expr.Name _ _) _ [] _) (envOfC _ _ _ _ _)) _ _ _); k_dflt (refine Call_ ?_)))

section
open PySem PySem.W PyProof.Rows
set_option maxRecDepth 100000
namespace Mine
-- a local whose value a fact tells

set_option maxHeartbeats 16000000 in
theorem turn_7 (w : World) (x0 x1 x2 x3 : Int) (hx3 : 0 ≤ x3) (U V : Nat) (ri fa : Int) (hri : ri = 1 ∨ ri = 2) (hfa : fa = 1 ∨ fa = 2) (W T : Nat → Str) (H : Nat → Nat → Nat → Int) (LF : LawF U V ri fa W T H)
    (dp un : Nat) (gd : Option (List Code)) (fn : Addr) (ccd : Value) (outer : List Env) (A₀ : Around) (base h₀ h : Heap) (L Dh Dr : Addr) (m : FMap) (o1 o2 o3 o4 o5 o6 : Obj) (t0 t1 t2 t3 tu tv tr tf wt0 wt1 wt2 yt0 yt1 yt2 tR tn q0 q1 q2 q3 q4 q5 : Tok) (cD k c cr k0 : Nat)
    (s : Shared) (Q : Flow → Shared → Prop) (E : Value → Shared → Prop) (mean : ExcName → Option Value) (mg mb : FMap)
    (B : Below A₀ base outer h₀) (X : (KK w.params).In h₀) (Tp : Top qv (looseW qv loose0) mean mg mb h₀)
    (hd : dp + 40 < recursionLimit) (hu : un + 800 < cLine) (hu0 : @Ne Nat tu 0) (hv0 : @Ne Nat tv 0) (huk : @LT.lt Nat _ tu k) (hvk : @LT.lt Nat _ tv k)
    (hE : PassesOwn (model r0.prog w) (ktrTop dp un gd (Str.ofString "law") d26.scope L fn ccd (cellsFrom (L + 1) d26.scope.names []) outer) (envOfC (Str.ofString "law") d26.scope L fn ccd) E) (x : Int) (t : Tok) (rs : List Value) (tail : Led)
    (hIr : IntsAre rs (ringsL (stepW U V ri fa (W 0)) (stepW U V ri fa (W 1)) (stepW U V ri fa (W 2)))) (hRr : RT rs k0) (hx : x ∈ six H) (ht0 : @Ne Nat t 0) (htk : @LT.lt Nat _ t k0) (hDD : @Ne Nat Dh Dr)
    (F : Fr h₀ L h (fun z => if z = Str.ofString "height" then some (Value.int x t) else if z = Str.ofString "heights" then some (Value.ref Dh) else if z = Str.ofString "rings" then some (Value.ref Dr) else m z))
    (N : News h₀ L h ((Dr, listOf (List.toArray rs) cr) :: (Dh, listOf (List.toArray [.int (H 0 1 2) q0, .int (H 0 2 1) q1, .int (H 1 0 2) q2, .int (H 1 2 0) q3, .int (H 2 0 1) q4, .int (H 2 1 0) q5]) c) :: tail))
    (hR : ∀ (h' : Heap) (tk : Tok) (m' : FMap), (@LE.le Nat _ k tk) → m' (Str.ofString "heights") = some (.ref Dh) → m' (Str.ofString "rings") = some (.ref Dr) → Fr h₀ L h' m' → News h₀ L h' ((Dr, listOf (List.toArray rs) cr) :: (Dh, listOf (List.toArray [.int (H 0 1 2) q0, .int (H 0 2 1) q1, .int (H 1 0 2) q2, .int (H 1 2 0) q3, .int (H 2 0 1) q4, .int (H 2 1 0) q5]) c) :: tail) → Q .next ⟨h', s.gens, s.drawn, tk, s.os⟩) :
    wpAny (model r0.prog w) (ktrTop dp un gd (Str.ofString "law") d26.scope L fn ccd (cellsFrom (L + 1) d26.scope.names []) outer) (execs (bodyOf (d26.body.drop 21)) (envOfC (Str.ofString "law") d26.scope L fn ccd)) Q E ⟨h, s.gens, s.drawn, k, s.os⟩ := by
  delta d26
  dsimp only [List.drop, bodyOf]
  revert X
  k_fill
  intro X
  with_reducible refine any_toks ?_
  have heq := LF.boh x hx
  have htok : ∀ (i : Nat) (n : Int) (u : Tok), rs[i]? = some (Value.int n u) → u ≠ 0 ∧ u ≠ t ∧ smallInt n = true := by
    intro i n u e
    have h1 := hRr i n u e
    obtain ⟨n', u', e1, e2⟩ := ints_at hIr e
    cases e2
    refine ⟨?_, ?_, LF.rsm _ (List.mem_of_getElem? e1)⟩
    · show @Ne Nat u 0
      (first | lia | omega)
    · show @Ne Nat u t
      (first | lia | omega)
  (repeat' ( (fail_if_success (with_reducible show wpAny _ _ (call (Value.ref 70) _) _ _ _)); (first | ((refine fun (qhz : Nat.le _ _) => ?_); (try simp only [Nat.le_eq] at qhz)) | ((with_reducible show wpAny _ _ (subscriptTail (Expr.Name _ _) (Expr.Name _ _) (Value.ref _) (Value.int _ _)) _ _ _); (k_here; (with_reducible rename News _ _ _ _ => kN); k_dflt (first | refine item_mem (l := [_, _, _, _]) kN (by k_mem) (by (first | lia | omega)) (by (first | lia | omega)) (by assumption) ?_ | refine item_mem (l := [_, _, _]) kN (by k_mem) (by (first | lia | omega)) (by (first | lia | omega)) (by assumption) ?_))) | (k_unfold; (try dsimp only)) | (k_end; wrow_close) | walk1 | (dsimp only; walk1) | (leave1; walk_say "STEP leave1"; try dsimp only) | fail "no step")))
  refine' useTV (countL_ok w _ _ [_, _, _, _, _, _] (six H) _ _ _ _ rfl ?ne) ?kB ?kF ?kX ?kN ?kT ?kk ?kd ?ku ?hpre ?_
  case ne => (show @Ne Nat _ _); (first | lia | omega)
  (((case kB => k_asm); (case kF => k_asm); (case kX => k_asm); (case kN => k_asm); (case kT => k_asm); (case kk => first | assumption | exact rfl); (case kd => first | (first | lia | omega) | ((try simp only [depth_deeper]); (first | lia | omega)) | ktr_room); (case ku => first | (first | lia | omega) | ((try simp only [units_deeper]); (first | lia | omega)) | ktr_units)))
  case hpre =>
    refine ⟨by k_mem, by k_mem, ?_⟩
    intro i v hv
    rcases i with _ | _ | _ | _ | _ | _ | i
    all_goals (simp at hv)
    all_goals exact ⟨_, _, _, _, hv.symm, rfl, by k_mem, by (show @Ne Nat _ _); (first | lia | omega), by (show @Ne Nat _ _); (first | lia | omega)⟩
  ((intro qh' qtk' qt' qhtk' qF' qN'))
  (repeat' ( (fail_if_success (with_reducible show wpAny _ _ (call (Value.ref 70) _) _ _ _)); (first | ((refine fun (qhz : Nat.le _ _) => ?_); (try simp only [Nat.le_eq] at qhz)) | ((with_reducible show wpAny _ _ (subscriptTail (Expr.Name _ _) (Expr.Name _ _) (Value.ref _) (Value.int _ _)) _ _ _); (k_here; (with_reducible rename News _ _ _ _ => kN); k_dflt (first | refine item_mem (l := [_, _, _, _]) kN (by k_mem) (by (first | lia | omega)) (by (first | lia | omega)) (by assumption) ?_ | refine item_mem (l := [_, _, _]) kN (by k_mem) (by (first | lia | omega)) (by (first | lia | omega)) (by assumption) ?_))) | (k_unfold; (try dsimp only)) | (k_end; wrow_close) | walk1 | (dsimp only; walk1) | (leave1; walk_say "STEP leave1"; try dsimp only) | fail "no step")))
  refine' useTV (countI_ok w _ rs (ringsL (stepW U V ri fa (W 0)) (stepW U V ri fa (W 1)) (stepW U V ri fa (W 2))) _ _ _ hIr ht0 htok) ?kB ?kF ?kX ?kN ?kT ?kk ?kd ?ku ?hpre ?_
  (((case kB => k_asm); (case kF => k_asm); (case kX => k_asm); (case kN => k_asm); (case kT => k_asm); (case kk => first | assumption | exact rfl); (case kd => first | (first | lia | omega) | ((try simp only [depth_deeper]); (first | lia | omega)) | ktr_room); (case ku => first | (first | lia | omega) | ((try simp only [units_deeper]); (first | lia | omega)) | ktr_units)))
  case hpre => (show _ ∈ _); k_mem
  ((intro qh' qtk' qt' qhtk' qF' qN'))
  (repeat' ( (fail_if_success (with_reducible show wpAny _ _ (execs (_ :: _) _) _ _ _)); (first | ((refine fun (qhz : Nat.le _ _) => ?_); (try simp only [Nat.le_eq] at qhz)) | ((with_reducible show wpAny _ _ (subscriptTail (Expr.Name _ _) (Expr.Name _ _) (Value.ref _) (Value.int _ _)) _ _ _); (k_here; (with_reducible rename News _ _ _ _ => kN); k_dflt (first | refine item_mem (l := [_, _, _, _]) kN (by k_mem) (by (first | lia | omega)) (by (first | lia | omega)) (by assumption) ?_ | refine item_mem (l := [_, _, _]) kN (by k_mem) (by (first | lia | omega)) (by (first | lia | omega)) (by assumption) ?_))) | (k_unfold; (try dsimp only)) | (k_end; wrow_close) | walk1 | (dsimp only; walk1) | (leave1; walk_say "STEP leave1"; try dsimp only) | fail "no step")))
  · exact absurd heq (by assumption)
  · (rename Fr _ _ _ _ => kF); (rename News _ _ _ _ => kN)
    exact hR _ _ _ (by assumption) (by rfl) (by rfl) kF (fun z hz => kN z (List.mem_cons_of_mem _ (List.mem_cons_of_mem _ (List.mem_cons_of_mem _ (List.mem_cons_of_mem _ (List.mem_cons_of_mem _ (List.mem_cons_of_mem _ (List.mem_cons_of_mem _ (List.mem_cons_of_mem _ hz)))))))))

end Mine
end

section
open PySem PySem.W PyProof.Rows
set_option maxRecDepth 100000
namespace Mine
-- a local whose value a fact tells

set_option maxHeartbeats 16000000 in
theorem law_7 (w : World) (x0 x1 x2 x3 : Int) (hx3 : 0 ≤ x3) (U V : Nat) (ri fa : Int) (hri : ri = 1 ∨ ri = 2) (hfa : fa = 1 ∨ fa = 2) (W T : Nat → Str) (H : Nat → Nat → Nat → Int) (LF : LawF U V ri fa W T H)
    (dp un : Nat) (gd : Option (List Code)) (fn : Addr) (ccd : Value) (outer : List Env) (A₀ : Around) (base h₀ h : Heap) (L D Dw Dt Dh Dr : Addr) (m : FMap) (o1 o2 o3 o4 o5 o6 : Obj) (t0 t1 t2 t3 tu tv tr tf wt0 wt1 wt2 yt0 yt1 yt2 tR tn : Tok) (cD k c cr k0 : Nat)
    (s : Shared) (Q : Flow → Shared → Prop) (E : Value → Shared → Prop) (mean : ExcName → Option Value) (mg mb : FMap)
    (B : Below A₀ base outer h₀) (X : (KK w.params).In h₀) (Tp : Top qv (looseW qv loose0) mean mg mb h₀)
    (d1 : o1.data = .cell (some (.ref D))) (d2 : o2.data = .cell (some (.str ⟨#[U]⟩ tu))) (d3 : o3.data = .cell (some (.str ⟨#[V]⟩ tv))) (d4 : o4.data = .cell (some (.int ri tr))) (d5 : o5.data = .cell (some (.int fa tf))) (d6 : o6.data = .cell (some (.ref Dw)))
    (hd : dp + 40 < recursionLimit) (hu : un + 800 < cLine) (hu0 : @Ne Nat tu 0) (hv0 : @Ne Nat tv 0) (huk : @LT.lt Nat _ tu k) (hvk : @LT.lt Nat _ tv k)
    (hQ : ∀ (h' : Heap) (tk : Tok) (m' : FMap), Fr h₀ L h' m' → Q (.ret (.bool true)) ⟨h', s.gens, s.drawn, tk, s.os⟩)
    (hE : PassesOwn (model r0.prog w) (ktrTop dp un gd (Str.ofString "law") d26.scope L fn ccd (cellsFrom (L + 1) d26.scope.names []) outer) (envOfC (Str.ofString "law") d26.scope L fn ccd) E) (vs rs : List Value)
    (hI : IntsAre vs (six H)) (hT : HT vs k0) (hIr : IntsAre rs (ringsL (stepW U V ri fa (W 0)) (stepW U V ri fa (W 1)) (stepW U V ri fa (W 2)))) (hRr : RT rs k0) (hDD : @Ne Nat Dh Dr)
    (F : Fr h₀ L h (fun z => if z = Str.ofString "heights" then some (Value.ref Dh) else if z = Str.ofString "rings" then some (Value.ref Dr) else m z))
    (N : News h₀ L h [(Dr, listOf (List.toArray rs) cr), (Dh, listOf (List.toArray vs) c)]) :
    wpAny (model r0.prog w) (ktrTop dp un gd (Str.ofString "law") d26.scope L fn ccd (cellsFrom (L + 1) d26.scope.names []) outer) (execs (d26.body.drop 21) (envOfC (Str.ofString "law") d26.scope L fn ccd)) Q E ⟨h, s.gens, s.drawn, k, s.os⟩ := by
  obtain ⟨q0, q1, q2, q3, q4, q5, rfl⟩ := six_ints hI
  delta d26
  dsimp only [List.drop]
  revert X
  k_fill
  intro X
  refine wpAny_execs_cons ?_
  with_reducible refine For_T2 (fun _ => folded_name) ?_
  (repeat' ( (fail_if_success (with_reducible show wpAny _ _ (pyIter _) (fun it s₂ => LoopAtT _ _ _ _ _ _ _ _ _ it s₂) _ _)); (first | ((refine fun (qhz : Nat.le _ _) => ?_); (try simp only [Nat.le_eq] at qhz)) | ((with_reducible show wpAny _ _ (subscriptTail (Expr.Name _ _) (Expr.Name _ _) (Value.ref _) (Value.int _ _)) _ _ _); (k_here; (with_reducible rename News _ _ _ _ => kN); k_dflt (first | refine item_mem (l := [_, _, _, _]) kN (by k_mem) (by (first | lia | omega)) (by (first | lia | omega)) (by assumption) ?_ | refine item_mem (l := [_, _, _]) kN (by k_mem) (by (first | lia | omega)) (by (first | lia | omega)) (by assumption) ?_))) | (k_unfold; (try dsimp only)) | (k_end; wrow_close) | walk1 | (dsimp only; walk1) | (leave1; walk_say "STEP leave1"; try dsimp only) | fail "no step")))
  (rename Fr _ _ _ _ => kF); (rename News _ _ _ _ => kN)
  refine iter_listT (rest := [(Dr, listOf (List.toArray rs) cr)]) (vs := [.int (H 0 1 2) q0, .int (H 0 2 1) q1, .int (H 1 0 2) q2, .int (H 1 2 0) q3, .int (H 2 0 1) q4, .int (H 2 1 0) q5]) (k := c) (fun i m₁ nx n => nx = [(Dr, listOf (List.toArray rs) cr)] ∧ (@LE.le Nat _ k n) ∧ m₁ (Str.ofString "heights") = some (.ref Dh) ∧ m₁ (Str.ofString "rings") = some (.ref Dr)) (fun i m nx a b hab h => ⟨h.1, Nat.le_trans h.2.1 hab, h.2.2⟩) rfl rfl rfl hE kF rfl ?n1 ?n2 ⟨rfl, ?n3, rfl, rfl⟩ ?turn ?done
  case n1 =>
    refine fun z hz => kN z ?_
    rcases List.mem_cons.mp hz with rfl | hz
    · exact List.mem_cons_of_mem _ List.mem_cons_self
    · rcases List.mem_cons.mp hz with rfl | hz
      · exact List.mem_cons_self
      · exact absurd hz List.not_mem_nil
  case n2 =>
    intro z hz
    rcases List.mem_cons.mp hz with rfl | hz
    · exact Ne.symm hDD
    · exact absurd hz List.not_mem_nil
  case n3 => (try dsimp only); (first | lia | omega)
  case done =>
    rintro m₁ nx h tk htk ⟨rfl, hk, f1, f2⟩ _ F N
    replace F : Fr h₀ L h _ := F
    replace N : News h₀ L h _ := N
    (try dsimp only)
    (((try dsimp only); refine toks_ge ?_; intro qkt' qhkt'; (try dsimp only)))
    refine wpAny_execs_cons ?_
    (repeat' ( (fail_if_success (with_reducible show wpAny _ _ (execs (_ :: _) _) _ _ _)); (first | ((refine fun (qhz : Nat.le _ _) => ?_); (try simp only [Nat.le_eq] at qhz)) | ((with_reducible show wpAny _ _ (subscriptTail (Expr.Name _ _) (Expr.Name _ _) (Value.ref _) (Value.int _ _)) _ _ _); (k_here; (with_reducible rename News _ _ _ _ => kN); k_dflt (first | refine item_mem (l := [_, _, _, _]) kN (by k_mem) (by (first | lia | omega)) (by (first | lia | omega)) (by assumption) ?_ | refine item_mem (l := [_, _, _]) kN (by k_mem) (by (first | lia | omega)) (by (first | lia | omega)) (by assumption) ?_))) | (k_unfold; (try dsimp only)) | (k_end; wrow_close) | walk1 | (dsimp only; walk1) | (leave1; walk_say "STEP leave1"; try dsimp only) | fail "no step")))
    exact hQ _ _ _ F
  case turn =>
    rintro i v m₁ nx h a tk own hi ha hadr hoff hown ⟨rfl, hk, f1, f2⟩ F N
    obtain ⟨x, t, hx, rfl⟩ := ints_at hI hi
    have ht := hT i x t hi
    rw [map2E f1 f2] at F
    replace F : Fr h₀ L h _ := F
    replace N : News h₀ L h _ := N
    show wpAny (model r0.prog w) (ktrTop dp un gd (Str.ofString "law") d26.scope L fn ccd (cellsFrom (L + 1) d26.scope.names []) outer) (execs (bodyOf (d26.body.drop 21)) (envOfC (Str.ofString "law") d26.scope L fn ccd)) _ _ _
    with_reducible refine (turn_7 w x0 x1 x2 x3 hx3 U V ri fa hri hfa W T H LF dp un gd fn ccd outer A₀ base h₀ h L Dh Dr _ o1 o2 o3 o4 o5 o6 t0 t1 t2 t3 tu tv tr tf wt0 wt1 wt2 yt0 yt1 yt2 tR tn q0 q1 q2 q3 q4 q5 cD tk c cr k0 s _ E mean mg mb B X Tp hd hu hu0 hv0 (Nat.lt_of_lt_of_le huk (Nat.le_trans hk ha)) (Nat.lt_of_lt_of_le hvk (Nat.le_trans hk ha)) hE x t rs own hIr hRr (List.mem_of_getElem? hx) ht.1 ht.2 hDD F (newsSub N (led2_in hown)) ?_)
    intro h' tk' m' hk' e1 e2 F' N'
    exact EndT.intro F' N' ⟨rfl, Nat.le_trans hk (Nat.le_trans ha hk'), e1, e2⟩ rfl (fun z hz => by
      rcases List.mem_cons.mp hz with rfl | hz
      · exact List.mem_cons_self
      · exact absurd hz List.not_mem_nil) (fun z hz => List.mem_cons_of_mem _ (List.mem_cons_of_mem _ hz))

end Mine
end

end

end

section
open PySem PySem.W PyProof.Rows
set_option maxRecDepth 100000
namespace Mine
set_option maxHeartbeats 16000000 in
theorem law_4b (w : World) (x0 x1 x2 x3 : Int) (hx3 : 0 ≤ x3) (U V : Nat) (ri fa : Int) (hri : ri = 1 ∨ ri = 2) (hfa : fa = 1 ∨ fa = 2) (W T : Nat → Str) (H : Nat → Nat → Nat → Int) (LF : LawF U V ri fa W T H)
    (dp un : Nat) (gd : Option (List Code)) (fn : Addr) (ccd : Value) (outer : List Env) (A₀ : Around) (base h₀ h : Heap) (L D Dw Dt Dh DL a0 a1 a2 a3 a4 a5 : Addr) (m : FMap) (o1 o2 o3 o4 o5 o6 : Obj) (t0 t1 t2 t3 tu tv tr tf wt0 wt1 wt2 yt0 yt1 yt2 tR tn tT u0 u1 u2 u3 u4 u5 u6 u7 u8 u9 u10 u11 u12 u13 u14 u15 u16 u17 : Tok) (cD k co cl : Nat)
    (s : Shared) (Q : Flow → Shared → Prop) (E : Value → Shared → Prop) (mean : ExcName → Option Value) (mg mb : FMap)
    (B : Below A₀ base outer h₀) (X : (KK w.params).In h₀) (Tp : Top qv (looseW qv loose0) mean mg mb h₀)
    (d1 : o1.data = .cell (some (.ref D))) (d2 : o2.data = .cell (some (.str ⟨#[U]⟩ tu))) (d3 : o3.data = .cell (some (.str ⟨#[V]⟩ tv))) (d4 : o4.data = .cell (some (.int ri tr))) (d5 : o5.data = .cell (some (.int fa tf))) (d6 : o6.data = .cell (some (.ref Dw)))
    (hd : dp + 40 < recursionLimit) (hu : un + 800 < cLine) (hu0 : @Ne Nat tu 0) (hv0 : @Ne Nat tv 0) (huk : @LT.lt Nat _ tu k) (hvk : @LT.lt Nat _ tv k)
    (hE : PassesOwn (model r0.prog w) (ktrTop dp un gd (Str.ofString "law") d26.scope L fn ccd (cellsFrom (L + 1) d26.scope.names []) outer) (envOfC (Str.ofString "law") d26.scope L fn ccd) E) (px : Pos)
    (F : Fr h₀ L h (fun z => if z = Str.ofString "heights" then some (Value.ref Dh) else if z = Str.ofString "top" then some (Value.int (topW V fa W) tT) else if z = Str.ofString "ruler" then some (Value.str (rulerS U V ri fa (nW W)) tR) else if z = Str.ofString "size" then some (Value.int (nW W) tn) else if z = Str.ofString "typed" then some (Value.ref Dt) else m z))
    (N : News h₀ L h ((DL, listOf (List.toArray [.ref a0, .ref a1, .ref a2, .ref a3, .ref a4, .ref a5]) cl) :: ([ordL a5 2 1 0 u15 u16 u17 co, ordL a4 2 0 1 u12 u13 u14 co, ordL a3 1 2 0 u9 u10 u11 co, ordL a2 1 0 2 u6 u7 u8 co, ordL a1 0 2 1 u3 u4 u5 co, ordL a0 0 1 2 u0 u1 u2 co] ++ (Dh, listOf #[] 0) :: [(Dt, LCg.lst [.str (T 0) yt0, .str (T 1) yt1, .str (T 2) yt2]), (Dw, LCg.lst [.str (W 0) wt0, .str (W 1) wt1, .str (W 2) wt2]), (D, listOf #[.int x0 t0, .int x1 t1, .int x2 t2, .int x3 t3] cD), (L + 1 + 1 + 1 + 1 + 1 + 1, o6), (L + 1 + 1 + 1 + 1 + 1, o5), (L + 1 + 1 + 1 + 1, o4), (L + 1 + 1 + 1, o3), (L + 1 + 1, o2), (L + 1, o1)]))) (hDh : (@LT.lt Nat _ Dt Dh) ∧ (@LT.lt Nat _ Dw Dh) ∧ (@LT.lt Nat _ D Dh) ∧ (@LT.lt Nat _ (L + 1 + 1 + 1 + 1 + 1 + 1) Dh) ∧ (@LT.lt Nat _ (L + 1 + 1 + 1 + 1 + 1) Dh) ∧ (@LT.lt Nat _ (L + 1 + 1 + 1 + 1) Dh) ∧ (@LT.lt Nat _ (L + 1 + 1 + 1) Dh) ∧ (@LT.lt Nat _ (L + 1 + 1) Dh) ∧ (@LT.lt Nat _ (L + 1) Dh))
    (hOS : ∀ z ∈ [ordL a5 2 1 0 u15 u16 u17 co, ordL a4 2 0 1 u12 u13 u14 co, ordL a3 1 2 0 u9 u10 u11 co, ordL a2 1 0 2 u6 u7 u8 co, ordL a1 0 2 1 u3 u4 u5 co, ordL a0 0 1 2 u0 u1 u2 co], @Ne Nat z.1 Dh) (hDL : ∀ z ∈ [ordL a5 2 1 0 u15 u16 u17 co, ordL a4 2 0 1 u12 u13 u14 co, ordL a3 1 2 0 u9 u10 u11 co, ordL a2 1 0 2 u6 u7 u8 co, ordL a1 0 2 1 u3 u4 u5 co, ordL a0 0 1 2 u0 u1 u2 co] ++ (Dh, listOf #[] 0) :: [(Dt, LCg.lst [.str (T 0) yt0, .str (T 1) yt1, .str (T 2) yt2]), (Dw, LCg.lst [.str (W 0) wt0, .str (W 1) wt1, .str (W 2) wt2]), (D, listOf #[.int x0 t0, .int x1 t1, .int x2 t2, .int x3 t3] cD), (L + 1 + 1 + 1 + 1 + 1 + 1, o6), (L + 1 + 1 + 1 + 1 + 1, o5), (L + 1 + 1 + 1 + 1, o4), (L + 1 + 1 + 1, o3), (L + 1 + 1, o2), (L + 1, o1)], @Ne Nat z.1 DL)
    (hdone : ∀ (h' : Heap) (tk : Tok) (m' : FMap) (vs : List Value) (c : Nat) (tx : Tok), (@LE.le Nat _ k tk) → IntsAre vs (six H) → HT vs tk → m' (Str.ofString "heights") = some (.ref Dh) → m' (Str.ofString "text") = some (.str (cat3 W 2 1 0) tx) → Fr h₀ L h' m' → News h₀ L h' ((Dh, listOf (List.toArray vs) c) :: [(Dt, LCg.lst [.str (T 0) yt0, .str (T 1) yt1, .str (T 2) yt2]), (Dw, LCg.lst [.str (W 0) wt0, .str (W 1) wt1, .str (W 2) wt2]), (D, listOf #[.int x0 t0, .int x1 t1, .int x2 t2, .int x3 t3] cD), (L + 1 + 1 + 1 + 1 + 1 + 1, o6), (L + 1 + 1 + 1 + 1 + 1, o5), (L + 1 + 1 + 1 + 1, o4), (L + 1 + 1 + 1, o3), (L + 1 + 1, o2), (L + 1, o1)]) → Q .next ⟨h', s.gens, s.drawn, tk, s.os⟩) :
    wpAny (model r0.prog w) (ktrTop dp un gd (Str.ofString "law") d26.scope L fn ccd (cellsFrom (L + 1) d26.scope.names []) outer) (pyIter (.ref DL)) (fun it s₂ => LoopAtT r0.prog w (ktrTop dp un gd (Str.ofString "law") d26.scope L fn ccd (cellsFrom (L + 1) d26.scope.names []) outer) (envOfC (Str.ofString "law") d26.scope L fn ccd) (Str.ofString "order") px (bodyOf (d26.body.drop 12)) Q E it s₂) E ⟨h, s.gens, s.drawn, k, s.os⟩ := by
  refine iter_listT (fun i m₁ nx n => ∃ (vs : List Value) (c : Nat), nx = [ordL a5 2 1 0 u15 u16 u17 co, ordL a4 2 0 1 u12 u13 u14 co, ordL a3 1 2 0 u9 u10 u11 co, ordL a2 1 0 2 u6 u7 u8 co, ordL a1 0 2 1 u3 u4 u5 co, ordL a0 0 1 2 u0 u1 u2 co] ++ (Dh, listOf (List.toArray vs) c) :: [(Dt, LCg.lst [.str (T 0) yt0, .str (T 1) yt1, .str (T 2) yt2]), (Dw, LCg.lst [.str (W 0) wt0, .str (W 1) wt1, .str (W 2) wt2]), (D, listOf #[.int x0 t0, .int x1 t1, .int x2 t2, .int x3 t3] cD), (L + 1 + 1 + 1 + 1 + 1 + 1, o6), (L + 1 + 1 + 1 + 1 + 1, o5), (L + 1 + 1 + 1 + 1, o4), (L + 1 + 1 + 1, o3), (L + 1 + 1, o2), (L + 1, o1)] ∧ vs.length = i ∧ IntsAre vs ((six H).take i) ∧ HT vs n ∧ (@LE.le Nat _ k n) ∧ m₁ (Str.ofString "heights") = some (.ref Dh) ∧ m₁ (Str.ofString "top") = some (.int (topW V fa W) tT) ∧ m₁ (Str.ofString "ruler") = some (.str (rulerS U V ri fa (nW W)) tR) ∧ m₁ (Str.ofString "size") = some (.int (nW W) tn) ∧ m₁ (Str.ofString "typed") = some (.ref Dt) ∧ (0 < i → ∃ t, m₁ (Str.ofString "text") = some (.str ((six (cat3 W)).getD (i - 1) ⟨#[]⟩) t)))
    (fun i m nx a b hab ⟨vs, c, h1, h2, h3, h4, h5, h6⟩ => ⟨vs, c, h1, h2, h3, h4.mono hab, Nat.le_trans h5 hab, h6⟩) rfl rfl rfl hE F rfl N hDL ⟨[], 0, rfl, rfl, .nil, (fun j x t e => by simp at e), Nat.le_refl _, rfl, rfl, rfl, rfl, rfl, fun h => absurd h (by decide)⟩ ?turn ?done
  case done =>
    rintro m₁ nx h tk htk ⟨vs, c, rfl, hvl, hI, hT, hk, f1, f2, f3, f4, f5, ft⟩ _ F N
    obtain ⟨tx, ft⟩ := ft (Nat.succ_pos _)
    exact hdone _ _ _ vs c tx hk hI hT f1 ft F (fun z hz => N z (List.mem_cons_of_mem _ (List.mem_append_right _ hz)))
  case turn =>
    rintro i v m₁ nx h a tk own hi ha hadr hoff hown ⟨vs, c, rfl, hvl, hI, hT, hk, f1, f2, f3, f4, f5, ft⟩ F N
    obtain ⟨p, q, r, ad, tp, tq, tz, rfl, hP, hmem, hi6, hH, hW⟩ := six_at H W hi
    rw [map5 f1 f2 f3 f4 f5] at F
    refine (turn_4 w x0 x1 x2 x3 hx3 U V ri fa hri hfa W T H LF dp un gd fn ccd outer A₀ base h₀ h L D Dw Dt Dh ad _ o1 o2 o3 o4 o5 o6 t0 t1 t2 t3 tu tv tr tf wt0 wt1 wt2 yt0 yt1 yt2 tR tn tT tp tq tz cD tk c co p q r s _ _ mean mg mb B X Tp d1 d2 d3 d4 d5 d6 hd hu hu0 hv0 (Nat.lt_of_lt_of_le huk (Nat.le_trans hk ha)) (Nat.lt_of_lt_of_le hvk (Nat.le_trans hk ha)) vs ([ordL a5 2 1 0 u15 u16 u17 co, ordL a4 2 0 1 u12 u13 u14 co, ordL a3 1 2 0 u9 u10 u11 co, ordL a2 1 0 2 u6 u7 u8 co, ordL a1 0 2 1 u3 u4 u5 co, ordL a0 0 1 2 u0 u1 u2 co] ++ own) hP ?_ F (fun z hz => N z (led_turn hmem z hz)) hDh ?_ ?_ ?_)
    · (first | lia | omega)
    · exact hOS _ hmem
    · intro z hz
      rcases List.mem_append.mp hz with hz | hz
      · exact hOS z hz
      · exact hoff z hz Dh (by simp)
    · intro h' tk' m' t tt h1 h2 ht F' N'
      refine EndT.intro F' N' ⟨vs ++ [.int (H p q r) t], c + 1, rfl, by simp [hvl], ?_, (hT.mono ?_).snoc ?_ h2, ?_, rfl, rfl, rfl, rfl, rfl, fun _ => ⟨tt, ?_⟩⟩ rfl (fun z hz => led_back z hz) (fun z hz => led_own (OS := [ordL a5 2 1 0 u15 u16 u17 co, ordL a4 2 0 1 u12 u13 u14 co, ordL a3 1 2 0 u9 u10 u11 co, ordL a2 1 0 2 u6 u7 u8 co, ordL a1 0 2 1 u3 u4 u5 co, ordL a0 0 1 2 u0 u1 u2 co]) (LED := [(Dt, LCg.lst [.str (T 0) yt0, .str (T 1) yt1, .str (T 2) yt2]), (Dw, LCg.lst [.str (W 0) wt0, .str (W 1) wt1, .str (W 2) wt2]), (D, listOf #[.int x0 t0, .int x1 t1, .int x2 t2, .int x3 t3] cD), (L + 1 + 1 + 1 + 1 + 1 + 1, o6), (L + 1 + 1 + 1 + 1 + 1, o5), (L + 1 + 1 + 1 + 1, o4), (L + 1 + 1 + 1, o3), (L + 1 + 1, o2), (L + 1, o1)]) z hz)
      · rw [List.take_add_one, hH]
        exact IntsAre.append hI (.cons _ _ .nil)
      · (first | lia | omega)
      · (first | lia | omega)
      · (first | lia | omega)
      · rw [Nat.add_sub_cancel, hW]
        exact ht

end Mine
end

section
open PySem PySem.W PyProof.Rows
set_option maxRecDepth 100000
namespace Mine
-- a local whose value a fact tells

set_option maxHeartbeats 16000000 in
theorem law_4 (w : World) (x0 x1 x2 x3 : Int) (hx3 : 0 ≤ x3) (U V : Nat) (ri fa : Int) (hri : ri = 1 ∨ ri = 2) (hfa : fa = 1 ∨ fa = 2) (W T : Nat → Str) (H : Nat → Nat → Nat → Int) (LF : LawF U V ri fa W T H)
    (dp un : Nat) (gd : Option (List Code)) (fn : Addr) (ccd : Value) (outer : List Env) (A₀ : Around) (base h₀ h : Heap) (L D Dw Dt Dh : Addr) (m : FMap) (o1 o2 o3 o4 o5 o6 : Obj) (t0 t1 t2 t3 tu tv tr tf wt0 wt1 wt2 yt0 yt1 yt2 tR tn tT : Tok) (cD k : Nat)
    (s : Shared) (Q : Flow → Shared → Prop) (E : Value → Shared → Prop) (mean : ExcName → Option Value) (mg mb : FMap)
    (B : Below A₀ base outer h₀) (X : (KK w.params).In h₀) (Tp : Top qv (looseW qv loose0) mean mg mb h₀)
    (d1 : o1.data = .cell (some (.ref D))) (d2 : o2.data = .cell (some (.str ⟨#[U]⟩ tu))) (d3 : o3.data = .cell (some (.str ⟨#[V]⟩ tv))) (d4 : o4.data = .cell (some (.int ri tr))) (d5 : o5.data = .cell (some (.int fa tf))) (d6 : o6.data = .cell (some (.ref Dw)))
    (hd : dp + 40 < recursionLimit) (hu : un + 800 < cLine) (hu0 : @Ne Nat tu 0) (hv0 : @Ne Nat tv 0) (huk : @LT.lt Nat _ tu k) (hvk : @LT.lt Nat _ tv k)
    (hE : PassesOwn (model r0.prog w) (ktrTop dp un gd (Str.ofString "law") d26.scope L fn ccd (cellsFrom (L + 1) d26.scope.names []) outer) (envOfC (Str.ofString "law") d26.scope L fn ccd) E)
    (F : Fr h₀ L h (fun z => if z = Str.ofString "heights" then some (Value.ref Dh) else if z = Str.ofString "top" then some (Value.int (topW V fa W) tT) else if z = Str.ofString "ruler" then some (Value.str (rulerS U V ri fa (nW W)) tR) else if z = Str.ofString "size" then some (Value.int (nW W) tn) else if z = Str.ofString "typed" then some (Value.ref Dt) else m z))
    (N : News h₀ L h [(Dh, listOf #[] 0), (Dt, LCg.lst [.str (T 0) yt0, .str (T 1) yt1, .str (T 2) yt2]), (Dw, LCg.lst [.str (W 0) wt0, .str (W 1) wt1, .str (W 2) wt2]), (D, listOf #[.int x0 t0, .int x1 t1, .int x2 t2, .int x3 t3] cD), (L + 1 + 1 + 1 + 1 + 1 + 1, o6), (L + 1 + 1 + 1 + 1 + 1, o5), (L + 1 + 1 + 1 + 1, o4), (L + 1 + 1 + 1, o3), (L + 1 + 1, o2), (L + 1, o1)]) (hDh : (@LT.lt Nat _ Dt Dh) ∧ (@LT.lt Nat _ Dw Dh) ∧ (@LT.lt Nat _ D Dh) ∧ (@LT.lt Nat _ (L + 1 + 1 + 1 + 1 + 1 + 1) Dh) ∧ (@LT.lt Nat _ (L + 1 + 1 + 1 + 1 + 1) Dh) ∧ (@LT.lt Nat _ (L + 1 + 1 + 1 + 1) Dh) ∧ (@LT.lt Nat _ (L + 1 + 1 + 1) Dh) ∧ (@LT.lt Nat _ (L + 1 + 1) Dh) ∧ (@LT.lt Nat _ (L + 1) Dh))
    (h5 : ∀ (h' : Heap) (tk : Tok) (m' : FMap) (vs : List Value) (c : Nat) (tx : Tok), (@LE.le Nat _ k tk) → IntsAre vs (six H) → HT vs tk → m' (Str.ofString "heights") = some (.ref Dh) → m' (Str.ofString "text") = some (.str (cat3 W 2 1 0) tx) → Fr h₀ L h' m' → News h₀ L h' ((Dh, listOf (List.toArray vs) c) :: [(Dt, LCg.lst [.str (T 0) yt0, .str (T 1) yt1, .str (T 2) yt2]), (Dw, LCg.lst [.str (W 0) wt0, .str (W 1) wt1, .str (W 2) wt2]), (D, listOf #[.int x0 t0, .int x1 t1, .int x2 t2, .int x3 t3] cD), (L + 1 + 1 + 1 + 1 + 1 + 1, o6), (L + 1 + 1 + 1 + 1 + 1, o5), (L + 1 + 1 + 1 + 1, o4), (L + 1 + 1 + 1, o3), (L + 1 + 1, o2), (L + 1, o1)]) → wpAny (model r0.prog w) (ktrTop dp un gd (Str.ofString "law") d26.scope L fn ccd (cellsFrom (L + 1) d26.scope.names []) outer) (execs (d26.body.drop 13) (envOfC (Str.ofString "law") d26.scope L fn ccd)) Q E ⟨h', s.gens, s.drawn, tk, s.os⟩) :
    wpAny (model r0.prog w) (ktrTop dp un gd (Str.ofString "law") d26.scope L fn ccd (cellsFrom (L + 1) d26.scope.names []) outer) (execs (d26.body.drop 12) (envOfC (Str.ofString "law") d26.scope L fn ccd)) Q E ⟨h, s.gens, s.drawn, k, s.os⟩ := by
  revert h5
  delta d26
  dsimp only [List.drop]
  revert X
  k_fill
  intro X h5
  refine wpAny_execs_cons ?_
  with_reducible refine any_toks ?_
  with_reducible refine For_T2 (fun _ => folded_list) ?_
  (repeat' ( (fail_if_success (with_reducible show wpAny _ _ (pyIter _) (fun it s₂ => LoopAtT _ _ _ _ _ _ _ _ _ it s₂) _ _)); (first | ((refine fun (qhz : Nat.le _ _) => ?_); (try simp only [Nat.le_eq] at qhz)) | ((with_reducible show wpAny _ _ (subscriptTail (Expr.Name _ _) (Expr.Name _ _) (Value.ref _) (Value.int _ _)) _ _ _); (k_here; (with_reducible rename News _ _ _ _ => kN); k_dflt (first | refine item_mem (l := [_, _, _, _]) kN (by k_mem) (by (first | lia | omega)) (by (first | lia | omega)) (by assumption) ?_ | refine item_mem (l := [_, _, _]) kN (by k_mem) (by (first | lia | omega)) (by (first | lia | omega)) (by assumption) ?_))) | (k_unfold; (try dsimp only)) | (k_end; wrow_close) | walk1 | (dsimp only; walk1) | (leave1; walk_say "STEP leave1"; try dsimp only) | fail "no step")))
  (((try dsimp only); refine toks_ge ?_; intro qkt' qhkt'; (try dsimp only)))
  (rename Fr _ _ _ _ => kF); (rename News _ _ _ _ => kN)
  refine (law_4b w x0 x1 x2 x3 hx3 U V ri fa hri hfa W T H LF dp un gd fn ccd outer A₀ base h₀ _ L D Dw Dt Dh _ _ _ _ _ _ _ m o1 o2 o3 o4 o5 o6 t0 t1 t2 t3 tu tv tr tf wt0 wt1 wt2 yt0 yt1 yt2 tR tn tT _ _ _ _ _ _ _ _ _ _ _ _ _ _ _ _ _ _ cD _ _ _ s _ E mean mg mb B X Tp d1 d2 d3 d4 d5 d6 hd hu hu0 hv0 (by (first | lia | omega)) (by (first | lia | omega)) hE _ kF kN hDh ?_ ?_ ?_)
  · intro z hz
    simp only [List.mem_cons, List.not_mem_nil, or_false] at hz
    rcases hz with rfl | rfl | rfl | rfl | rfl | rfl
    all_goals (dsimp only; (first | lia | omega))
  · intro z hz
    simp only [List.cons_append, List.nil_append, List.mem_cons, List.not_mem_nil, or_false] at hz
    rcases hz with rfl | rfl | rfl | rfl | rfl | rfl | rfl | rfl | rfl | rfl | rfl | rfl | rfl | rfl | rfl | rfl
    all_goals (dsimp only; (first | lia | omega))
  · intro h' tk m' vs c tx hk a1 a2 a3 a4 a5 a6 hk2
    exact h5 h' tk m' vs c tx hk2 a1 a2 a3 a4 a5 a6

end Mine
end

section
open PySem PySem.W PyProof.Rows
set_option maxRecDepth 100000
namespace Mine
-- a local whose value a fact tells

set_option maxHeartbeats 16000000 in
theorem law_3 (w : World) (x0 x1 x2 x3 : Int) (hx3 : 0 ≤ x3) (U V : Nat) (ri fa : Int) (hri : ri = 1 ∨ ri = 2) (hfa : fa = 1 ∨ fa = 2) (W T : Nat → Str) (H : Nat → Nat → Nat → Int) (LF : LawF U V ri fa W T H)
    (dp un : Nat) (gd : Option (List Code)) (fn : Addr) (ccd : Value) (outer : List Env) (A₀ : Around) (base h₀ h : Heap) (L D Dw Dt : Addr) (m : FMap) (o1 o2 o3 o4 o5 o6 : Obj) (t0 t1 t2 t3 tu tv tr tf wt0 wt1 wt2 yt0 yt1 yt2 tR tn : Tok) (cD k : Nat)
    (s : Shared) (Q : Flow → Shared → Prop) (E : Value → Shared → Prop) (mean : ExcName → Option Value) (mg mb : FMap)
    (B : Below A₀ base outer h₀) (X : (KK w.params).In h₀) (Tp : Top qv (looseW qv loose0) mean mg mb h₀)
    (d1 : o1.data = .cell (some (.ref D))) (d2 : o2.data = .cell (some (.str ⟨#[U]⟩ tu))) (d3 : o3.data = .cell (some (.str ⟨#[V]⟩ tv))) (d4 : o4.data = .cell (some (.int ri tr))) (d5 : o5.data = .cell (some (.int fa tf))) (d6 : o6.data = .cell (some (.ref Dw)))
    (hd : dp + 40 < recursionLimit) (hu : un + 800 < cLine) (hu0 : @Ne Nat tu 0) (hv0 : @Ne Nat tv 0) (huk : @LT.lt Nat _ tu k) (hvk : @LT.lt Nat _ tv k)
    (hE : PassesOwn (model r0.prog w) (ktrTop dp un gd (Str.ofString "law") d26.scope L fn ccd (cellsFrom (L + 1) d26.scope.names []) outer) (envOfC (Str.ofString "law") d26.scope L fn ccd) E)
    (F : Fr h₀ L h (fun z => if z = Str.ofString "ruler" then some (Value.str (rulerS U V ri fa (nW W)) tR) else if z = Str.ofString "size" then some (Value.int (nW W) tn) else if z = Str.ofString "typed" then some (Value.ref Dt) else m z))
    (N : News h₀ L h [(Dt, LCg.lst [.str (T 0) yt0, .str (T 1) yt1, .str (T 2) yt2]), (Dw, LCg.lst [.str (W 0) wt0, .str (W 1) wt1, .str (W 2) wt2]), (D, listOf #[.int x0 t0, .int x1 t1, .int x2 t2, .int x3 t3] cD), (L + 1 + 1 + 1 + 1 + 1 + 1, o6), (L + 1 + 1 + 1 + 1 + 1, o5), (L + 1 + 1 + 1 + 1, o4), (L + 1 + 1 + 1, o3), (L + 1 + 1, o2), (L + 1, o1)])
    (h5 : ∀ (Dh : Addr) (h' : Heap) (tk : Tok) (m' : FMap) (vs : List Value) (c : Nat) (tx : Tok), (@LE.le Nat _ k tk) → IntsAre vs (six H) → HT vs tk → m' (Str.ofString "heights") = some (.ref Dh) → m' (Str.ofString "text") = some (.str (cat3 W 2 1 0) tx) → Fr h₀ L h' m' → News h₀ L h' ((Dh, listOf (List.toArray vs) c) :: [(Dt, LCg.lst [.str (T 0) yt0, .str (T 1) yt1, .str (T 2) yt2]), (Dw, LCg.lst [.str (W 0) wt0, .str (W 1) wt1, .str (W 2) wt2]), (D, listOf #[.int x0 t0, .int x1 t1, .int x2 t2, .int x3 t3] cD), (L + 1 + 1 + 1 + 1 + 1 + 1, o6), (L + 1 + 1 + 1 + 1 + 1, o5), (L + 1 + 1 + 1 + 1, o4), (L + 1 + 1 + 1, o3), (L + 1 + 1, o2), (L + 1, o1)]) → wpAny (model r0.prog w) (ktrTop dp un gd (Str.ofString "law") d26.scope L fn ccd (cellsFrom (L + 1) d26.scope.names []) outer) (execs (d26.body.drop 13) (envOfC (Str.ofString "law") d26.scope L fn ccd)) Q E ⟨h', s.gens, s.drawn, tk, s.os⟩) :
    wpAny (model r0.prog w) (ktrTop dp un gd (Str.ofString "law") d26.scope L fn ccd (cellsFrom (L + 1) d26.scope.names []) outer) (execs (d26.body.drop 10) (envOfC (Str.ofString "law") d26.scope L fn ccd)) Q E ⟨h, s.gens, s.drawn, k, s.os⟩ := by
  revert h5
  delta d26
  dsimp only [List.drop]
  revert X
  k_fill
  intro X h5
  refine wpAny_execs_cons ?_
  with_reducible refine any_toks ?_
  (repeat' ( (fail_if_success (with_reducible show wpAny _ _ (eval (Expr.ListComp _ _ _ _) _) _ _ _)); (fail_if_success (with_reducible show wpAny _ _ (callWith _ _ _ _ _) _ _ _)); (first | ((refine fun (qhz : Nat.le _ _) => ?_); (try simp only [Nat.le_eq] at qhz)) | ((with_reducible show wpAny _ _ (subscriptTail (Expr.Name _ _) (Expr.Name _ _) (Value.ref _) (Value.int _ _)) _ _ _); (k_here; (with_reducible rename News _ _ _ _ => kN); k_dflt (first | refine item_mem (l := [_, _, _, _]) kN (by k_mem) (by (first | lia | omega)) (by (first | lia | omega)) (by assumption) ?_ | refine item_mem (l := [_, _, _]) kN (by k_mem) (by (first | lia | omega)) (by (first | lia | omega)) (by assumption) ?_))) | (k_unfold; (try dsimp only)) | (k_end; wrow_close) | walk1 | (dsimp only; walk1) | (leave1; walk_say "STEP leave1"; try dsimp only) | fail "no step")))
  refine method1_lc ?_
  dsimp only [List.nil_append]
  (((try dsimp only); refine toks_ge ?_; intro qkt' qhkt'; (try dsimp only)))
  refine' ListComp2_T (isV V) ?hF ?hclos ?hcell ?hkind ?hnames ?hx0 ?hx1 ?_ ?hs
  case hF => k_asm
  case hclos => with_unfolding_all rfl
  case hcell => decide
  case hkind => rfl
  case hnames => decide
  case hx0 => decide
  case hx1 => decide
  case hs => intro _; rfl
  (repeat' ( (fail_if_success (with_reducible show Exists _)); (first | ((with_reducible show wpAny _ _ (subscriptTail (Expr.Name _ _) (Expr.Name _ _) (Value.ref _) (Value.int _ _)) _ _ _); (k_here; (with_reducible rename News _ _ _ _ => kN); k_dflt (first | refine item_mem (l := [_, _, _, _]) kN (by k_mem) (by (first | lia | omega)) (by (first | lia | omega)) (by assumption) ?_ | refine item_mem (l := [_, _, _]) kN (by k_mem) (by (first | lia | omega)) (by (first | lia | omega)) (by assumption) ?_))) | (k_unfold; (try dsimp only)) | (k_end; wrow_close) | walk1 | (dsimp only; walk1) | (leave1; walk_say "STEP leave1"; try dsimp only) | fail "no step")))
  refine ⟨_, [_, _, _], _, _, rfl, (by first | rfl | exact True.intro), by k_asm, by k_asm, by k_mem, Nat.le_of_ble_eq_true rfl, ?vs, ?word, ?test, ?elem, ?fin⟩
  case vs =>
    intro v hv
    have h0 := (LF.wl 0).2
    have h1 := (LF.wl 1).2
    have h2 := (LF.wl 2).2
    simp only [List.mem_cons, List.not_mem_nil, or_false] at hv
    rcases hv with rfl | rfl | rfl
    · exact ⟨_, _, rfl, Nat.le_trans h0 (by decide)⟩
    · exact ⟨_, _, rfl, Nat.le_trans h1 (by decide)⟩
    · exact ⟨_, _, rfl, Nat.le_trans h2 (by decide)⟩
  case word =>
    intro v oC C m₂ h' tk led E' htk hC hm₂ F' N' hmC hsub
    have N₂ : News h₀ L h' ((C, oC) :: _) := fun p hp => N' p (by rcases List.mem_cons.mp hp with rfl | hp; exact hmC; exact hsub p hp)
    clear hsub hmC
    (repeat' ( (fail_if_success (with_reducible show ElT _ _ _ _ _ _ _ _)); (first | ((with_reducible show wpAny _ _ (subscriptTail (Expr.Name _ _) (Expr.Name _ _) (Value.ref _) (Value.int _ _)) _ _ _); (k_here; (with_reducible rename News _ _ _ _ => kN); k_dflt (first | refine item_mem (l := [_, _, _, _]) kN (by k_mem) (by (first | lia | omega)) (by (first | lia | omega)) (by assumption) ?_ | refine item_mem (l := [_, _, _]) kN (by k_mem) (by (first | lia | omega)) (by (first | lia | omega)) (by assumption) ?_))) | (k_unfold; (try dsimp only)) | (k_end; wrow_close) | walk1 | (dsimp only; walk1) | (leave1; walk_say "STEP leave1"; try dsimp only) | fail "no step")))
    (show ElT _ _ _ _ _ _ _ _)
    exact ⟨_, _, rfl, F', N', rfl⟩
  case test =>
    intro c oC C m₂ h' ta tk led E' htk hC hm₂ F' N' hmC hsub
    have N₂ : News h₀ L h' ((C, oC) :: _) := fun p hp => N' p (by rcases List.mem_cons.mp hp with rfl | hp; exact hmC; exact hsub p hp)
    clear hsub hmC
    (repeat' ( (fail_if_success (with_reducible show ElT _ _ _ _ _ _ _ _)); (first | ((with_reducible show wpAny _ _ (subscriptTail (Expr.Name _ _) (Expr.Name _ _) (Value.ref _) (Value.int _ _)) _ _ _); (k_here; (with_reducible rename News _ _ _ _ => kN); k_dflt (first | refine item_mem (l := [_, _, _, _]) kN (by k_mem) (by (first | lia | omega)) (by (first | lia | omega)) (by assumption) ?_ | refine item_mem (l := [_, _, _]) kN (by k_mem) (by (first | lia | omega)) (by (first | lia | omega)) (by assumption) ?_))) | (k_unfold; (try dsimp only)) | (k_end; wrow_close) | walk1 | (dsimp only; walk1) | (leave1; walk_say "STEP leave1"; try dsimp only) | fail "no step")))
    (show ElT _ _ _ _ _ _ _ _)
    exact ⟨_, _, rfl, F', N', rfl⟩
  case elem =>
    intro c oC C m₂ h' ta tk led E' htk hC hm₂ F' N' hmC hsub
    have N₂ : News h₀ L h' ((C, oC) :: _) := fun p hp => N' p (by rcases List.mem_cons.mp hp with rfl | hp; exact hmC; exact hsub p hp)
    clear hsub hmC
    (repeat' ( (fail_if_success (with_reducible show ElT _ _ _ _ _ _ _ _)); (first | ((with_reducible show wpAny _ _ (subscriptTail (Expr.Name _ _) (Expr.Name _ _) (Value.ref _) (Value.int _ _)) _ _ _); (k_here; (with_reducible rename News _ _ _ _ => kN); k_dflt (first | refine item_mem (l := [_, _, _, _]) kN (by k_mem) (by (first | lia | omega)) (by (first | lia | omega)) (by assumption) ?_ | refine item_mem (l := [_, _, _]) kN (by k_mem) (by (first | lia | omega)) (by (first | lia | omega)) (by assumption) ?_))) | (k_unfold; (try dsimp only)) | (k_end; wrow_close) | walk1 | (dsimp only; walk1) | (leave1; walk_say "STEP leave1"; try dsimp only) | fail "no step")))
    (show ElT _ _ _ _ _ _ _ _)
    exact ⟨_, _, rfl, F', N', trivial⟩
  case fin =>
    intro D' h' tk ys htk hlen F' N' off
    have hyl : ys.length ≤ 1000 := by
      rw [hlen]
      refine Nat.le_trans (cnt2_le _ _ ?_) (Nat.le_of_ble_eq_true rfl)
      have h0 := (LF.wl 0).2
      have h1 := (LF.wl 1).2
      have h2 := (LF.wl 2).2
      intro v hv
      simp only [List.mem_cons, List.not_mem_nil, or_false] at hv
      rcases hv with rfl | rfl | rfl
      · exact ⟨_, _, rfl, Nat.le_trans h0 (by decide)⟩
      · exact ⟨_, _, rfl, Nat.le_trans h1 (by decide)⟩
      · exact ⟨_, _, rfl, Nat.le_trans h2 (by decide)⟩
    have hcv : (ys.length : Int) = cntV V (W 0) + cntV V (W 1) + cntV V (W 2) := by
      rw [hlen]
      simp only [cnt2, cntV, List.map_cons, List.map_nil, List.sum_cons, List.sum_nil]
      (first | lia | omega)
    clear hlen
    (try dsimp only)
    refine len_lst N' List.mem_cons_self hyl hcv ?_
    (repeat' ( (fail_if_success (with_reducible show wpAny _ _ (execs _ _) _ _ _)); (first | ((refine fun (qhz : Nat.le _ _) => ?_); (try simp only [Nat.le_eq] at qhz)) | ((with_reducible show wpAny _ _ (subscriptTail (Expr.Name _ _) (Expr.Name _ _) (Value.ref _) (Value.int _ _)) _ _ _); (k_here; (with_reducible rename News _ _ _ _ => kN); k_dflt (first | refine item_mem (l := [_, _, _, _]) kN (by k_mem) (by (first | lia | omega)) (by (first | lia | omega)) (by assumption) ?_ | refine item_mem (l := [_, _, _]) kN (by k_mem) (by (first | lia | omega)) (by (first | lia | omega)) (by assumption) ?_))) | (k_unfold; (try dsimp only)) | (k_end; wrow_close) | walk1 | (dsimp only; walk1) | (leave1; walk_say "STEP leave1"; try dsimp only) | fail "no step")))
    (((try dsimp only); refine toks_ge ?_; intro qkt' qhkt'; (try dsimp only)))
    rename Fr _ _ _ _ => kF
    change Fr h₀ L _ (fun z => if z = Str.ofString "top" then some (.int (topW V fa W) _) else _) at kF
    refine wpAny_execs_cons ?_
    with_reducible refine any_toks ?_
    (repeat' ( (fail_if_success (with_reducible show wpAny _ _ (execs _ _) _ _ _)); (first | ((refine fun (qhz : Nat.le _ _) => ?_); (try simp only [Nat.le_eq] at qhz)) | ((with_reducible show wpAny _ _ (subscriptTail (Expr.Name _ _) (Expr.Name _ _) (Value.ref _) (Value.int _ _)) _ _ _); (k_here; (with_reducible rename News _ _ _ _ => kN); k_dflt (first | refine item_mem (l := [_, _, _, _]) kN (by k_mem) (by (first | lia | omega)) (by (first | lia | omega)) (by assumption) ?_ | refine item_mem (l := [_, _, _]) kN (by k_mem) (by (first | lia | omega)) (by (first | lia | omega)) (by assumption) ?_))) | (k_unfold; (try dsimp only)) | (k_end; wrow_close) | walk1 | (dsimp only; walk1) | (leave1; walk_say "STEP leave1"; try dsimp only) | fail "no step")))
    (((try dsimp only); refine toks_ge ?_; intro qkt' qhkt'; (try dsimp only)))
    (rename Fr _ _ _ _ => kF); (rename News _ _ _ _ => kN)
    show wpAny (model r0.prog w) (ktrTop dp un gd (Str.ofString "law") d26.scope L fn ccd (cellsFrom (L + 1) d26.scope.names []) outer) (execs (d26.body.drop 12) (envOfC (Str.ofString "law") d26.scope L fn ccd)) _ _ _
    with_reducible refine (law_4 w x0 x1 x2 x3 hx3 U V ri fa hri hfa W T H LF dp un gd fn ccd outer A₀ base h₀ _ L D Dw Dt _ m o1 o2 o3 o4 o5 o6 t0 t1 t2 t3 tu tv tr tf wt0 wt1 wt2 yt0 yt1 yt2 tR tn _ cD _ _ _ _ mean mg mb B X Tp d1 d2 d3 d4 d5 d6 hd hu hu0 hv0 (by (first | lia | omega)) (by (first | lia | omega)) hE kF ?_ ?_ ?_)
    · refine fun z hz => kN z ?_
      rcases List.mem_cons.mp hz with rfl | hz
      · exact List.mem_cons_self
      · exact List.mem_cons_of_mem _ (List.mem_cons_of_mem _ hz)
    · (first | lia | omega)
    · intro h' tk m' vs c tx hk a1 a2 a3 a4 a5 a6
      exact h5 _ h' tk m' vs c tx (by (first | lia | omega)) a1 a2 a3 a4 a5 a6

end Mine
end

section
open PySem PySem.W PyProof.Rows
set_option maxRecDepth 100000
namespace Mine
theorem law_8 (w : World) (x0 x1 x2 x3 : Int) (hx3 : 0 ≤ x3) (U V : Nat) (ri fa : Int) (hri : ri = 1 ∨ ri = 2) (hfa : fa = 1 ∨ fa = 2) (W T : Nat → Str) (H : Nat → Nat → Nat → Int) (LF : LawF U V ri fa W T H)
    (dp un : Nat) (gd : Option (List Code)) (fn : Addr) (ccd : Value) (outer : List Env) (A₀ : Around) (base h₀ h : Heap) (L D Dw Dt : Addr) (m : FMap) (o1 o2 o3 o4 o5 o6 : Obj) (t0 t1 t2 t3 tu tv tr tf wt0 wt1 wt2 yt0 yt1 yt2 tR tn : Tok) (cD k : Nat)
    (s : Shared) (Q : Flow → Shared → Prop) (E : Value → Shared → Prop) (mean : ExcName → Option Value) (mg mb : FMap)
    (B : Below A₀ base outer h₀) (X : (KK w.params).In h₀) (Tp : Top qv (looseW qv loose0) mean mg mb h₀)
    (d1 : o1.data = .cell (some (.ref D))) (d2 : o2.data = .cell (some (.str ⟨#[U]⟩ tu))) (d3 : o3.data = .cell (some (.str ⟨#[V]⟩ tv))) (d4 : o4.data = .cell (some (.int ri tr))) (d5 : o5.data = .cell (some (.int fa tf))) (d6 : o6.data = .cell (some (.ref Dw)))
    (hd : dp + 40 < recursionLimit) (hu : un + 800 < cLine) (hu0 : @Ne Nat tu 0) (hv0 : @Ne Nat tv 0) (huk : @LT.lt Nat _ tu k) (hvk : @LT.lt Nat _ tv k)
    (hQ : ∀ (h' : Heap) (tk : Tok) (m' : FMap), Fr h₀ L h' m' → Q (.ret (.bool true)) ⟨h', s.gens, s.drawn, tk, s.os⟩)
    (hE : PassesOwn (model r0.prog w) (ktrTop dp un gd (Str.ofString "law") d26.scope L fn ccd (cellsFrom (L + 1) d26.scope.names []) outer) (envOfC (Str.ofString "law") d26.scope L fn ccd) E)
    (F : Fr h₀ L h (fun z => if z = Str.ofString "ruler" then some (Value.str (rulerS U V ri fa (nW W)) tR) else if z = Str.ofString "size" then some (Value.int (nW W) tn) else if z = Str.ofString "typed" then some (Value.ref Dt) else m z))
    (N : News h₀ L h [(Dt, LCg.lst [.str (T 0) yt0, .str (T 1) yt1, .str (T 2) yt2]), (Dw, LCg.lst [.str (W 0) wt0, .str (W 1) wt1, .str (W 2) wt2]), (D, listOf #[.int x0 t0, .int x1 t1, .int x2 t2, .int x3 t3] cD), (L + 1 + 1 + 1 + 1 + 1 + 1, o6), (L + 1 + 1 + 1 + 1 + 1, o5), (L + 1 + 1 + 1 + 1, o4), (L + 1 + 1 + 1, o3), (L + 1 + 1, o2), (L + 1, o1)]) :
    wpAny (model r0.prog w) (ktrTop dp un gd (Str.ofString "law") d26.scope L fn ccd (cellsFrom (L + 1) d26.scope.names []) outer) (execs (d26.body.drop 10) (envOfC (Str.ofString "law") d26.scope L fn ccd)) Q E ⟨h, s.gens, s.drawn, k, s.os⟩ := by
  refine (law_3 w x0 x1 x2 x3 hx3 U V ri fa hri hfa W T H LF dp un gd fn ccd outer A₀ base h₀ h L D Dw Dt m o1 o2 o3 o4 o5 o6 t0 t1 t2 t3 tu tv tr tf wt0 wt1 wt2 yt0 yt1 yt2 tR tn cD k s Q E mean mg mb B X Tp d1 d2 d3 d4 d5 d6 hd hu hu0 hv0 huk hvk hE F N ?_)
  intro Dh h' tk m' vs c tx hk hI hT e1 e2 F' N'
  refine (law_5 w x0 x1 x2 x3 hx3 U V ri fa hri hfa W T H LF dp un gd fn ccd outer A₀ base h₀ h' L D Dw Dt Dh m' o1 o2 o3 o4 o5 o6 t0 t1 t2 t3 tu tv tr tf wt0 wt1 wt2 yt0 yt1 yt2 tR tn tx cD tk c s Q E mean mg mb B X Tp d1 d2 d3 d4 d5 d6 hd hu hu0 hv0 (Nat.lt_of_lt_of_le huk hk) (Nat.lt_of_lt_of_le hvk hk) hE vs hI hT (map2F F' e1 e2) N' ?_)
  intro h'' tk2 m'' hk2 e3 F'' N''
  refine (law_6 w x0 x1 x2 x3 hx3 U V ri fa hri hfa W T H LF dp un gd fn ccd outer A₀ base h₀ h'' L D Dw Dt Dh m'' o1 o2 o3 o4 o5 o6 t0 t1 t2 t3 tu tv tr tf wt0 wt1 wt2 yt0 yt1 yt2 tR tn cD tk2 c s Q E mean mg mb B X Tp d1 d2 d3 d4 d5 d6 hd hu hu0 hv0 (Nat.lt_of_lt_of_le huk (Nat.le_trans hk hk2)) (Nat.lt_of_lt_of_le hvk (Nat.le_trans hk hk2)) hE vs hI (hT.mono hk2) (map1F F'' e3) N'' ?_)
  intro Dr cr rs h3 tk3 m3 hIr hRr hk3 hDD e4 e5 F3 N3
  exact (law_7 w x0 x1 x2 x3 hx3 U V ri fa hri hfa W T H LF dp un gd fn ccd outer A₀ base h₀ h3 L D Dw Dt Dh Dr m3 o1 o2 o3 o4 o5 o6 t0 t1 t2 t3 tu tv tr tf wt0 wt1 wt2 yt0 yt1 yt2 tR tn cD tk3 c cr tk2 s Q E mean mg mb B X Tp d1 d2 d3 d4 d5 d6 hd hu hu0 hv0 (Nat.lt_of_lt_of_le huk (Nat.le_trans hk (Nat.le_trans hk2 hk3))) (Nat.lt_of_lt_of_le hvk (Nat.le_trans hk (Nat.le_trans hk2 hk3))) hQ hE vs rs hI (hT.mono hk2) hIr hRr hDD (map2F F3 e4 e5) N3)

end Mine
end

section
open PySem PySem.W PyProof.Rows
set_option maxRecDepth 100000
namespace Mine
noncomputable def b3g (c : Int) : Option Value := (b3L.find? fun e => Value.isInt c e.key).map (·.val)
theorem b3f_eq (c : Int) : b3f c = b3g c := by
  unfold b3f findBy b3g
  rw [List.find?_toArray]
/-- the value of a sign that the table holds -/
noncomputable def inTab (c : Nat) (l : List Nat) : Bool := match b3g c with
  | some (.str x _) => x.cps.toList == l
  | _ => false
noncomputable def noTab (c : Nat) : Bool := (b3g c).isNone
theorem bothT : ([(223, [115, 115]), (64262, [115, 116]), (13261, [107, 107]), (13262, [107, 109]), (64256, [102, 102]), (64257, [102, 105])].all fun p => inTab p.1 p.2 && !b1mem p.1) = true := by decide +kernel
theorem plainT : ([115, 116, 107, 109, 102, 105, 83, 84, 75, 77, 70, 73].all fun p => noTab p && !b1mem p) = true := by decide +kernel
theorem hidT : ((List.range 27).all fun k => noTab (unseenCp k).toNat && b1mem (unseenCp k).toNat) = true := by decide +kernel
theorem mathT : ([115, 116, 107, 109, 102, 105].all fun c => (List.range 10).all fun k => inTab (formCp c ((k : Int) + 2)).toNat [c] && !b1mem (formCp c ((k : Int) + 2)).toNat) = true := by decide +kernel
noncomputable def sg (c : Nat) : List Nat := (sigs [c]).flatMap tl
theorem lower1 (c : Nat) : 1 ≤ (Txt.lower ⟨#[c]⟩).length := by
  have hs : (UnicodeData.severalLower.all fun q => decide (1 ≤ q.2.length)) = true := by decide
  have h1 : 1 ≤ (Unicode.lowerOf c).length := by
    unfold Unicode.lowerOf Unicode.image
    split
    · rename_i cs hl
      exact of_decide_eq_true (StrLaws.lookup_all (p := fun l => decide (1 ≤ l.length)) _ c cs hs hl)
    · simp
  have h2 : 1 ≤ (Unicode.lowerAt #[c] 0).length := by
    unfold Unicode.lowerAt
    simp only [List.getElem?_toArray, List.getElem?_cons_zero]
    split
    · simp
    · exact h1
  show 1 ≤ (PySem.placed ⟨#[c]⟩ fun i _ => Unicode.lowerAt #[c] i).size
  simpa [PySem.placed] using h2
theorem okc_tab {c : Nat} {l : List Nat} (h : inTab c l = true) (h1 : 1 ≤ l.length) (h4 : l.length ≤ 4) : Okc c ∧ tl (b3S c) = l := by
  unfold inTab at h
  rw [← b3f_eq] at h
  unfold Okc b3S
  split at h
  · rename_i x tx e
    rw [e]
    have e2 : tl x = l := by simpa using h
    refine ⟨⟨.inr ⟨x, tx, rfl⟩, ?_, ?_⟩, e2⟩
    · show 1 ≤ x.length
      rw [← tl_len, e2]; exact h1
    · show x.length ≤ 4
      rw [← tl_len, e2]; exact h4
  · exact absurd h (by decide)
theorem okc_no {c : Nat} (h : noTab c = true) : Okc c ∧ b3S c = Txt.lower ⟨#[c]⟩ := by
  unfold noTab at h
  rw [← b3f_eq, Option.isNone_iff_eq_none] at h
  unfold Okc b3S
  rw [h]
  exact ⟨⟨.inl rfl, lower1 c, Nat.le_trans (len_lower ⟨#[c]⟩) (by decide : 3 * 1 ≤ 4)⟩, rfl⟩
theorem sg_vis {c : Nat} (h : b1mem c = false) : sg c = tl (b3S c) := by
  unfold sg
  rw [sigs_yes h]
  simp
theorem sg_hid {c : Nat} (h : b1mem c = true) : sg c = [] := by
  unfold sg
  rw [sigs_no h]
  rfl
/-- what is known of a sign: allowed, and read as l -/
noncomputable def Sg (c : Nat) (l : List Nat) : Prop := Okc c ∧ sg c = l
theorem sg_tab {c : Nat} {l : List Nat} (h : (inTab c l && !b1mem c) = true) (h1 : 1 ≤ l.length) (h4 : l.length ≤ 4) : Sg c l := by
  simp only [Bool.and_eq_true, Bool.not_eq_true'] at h
  exact ⟨(okc_tab h.1 h1 h4).1, (sg_vis h.2).trans (okc_tab h.1 h1 h4).2⟩
theorem sg_plain {c : Nat} (h : (noTab c && !b1mem c) = true) (h2 : c < 128) : Sg c [lo1 c] := by
  simp only [Bool.and_eq_true, Bool.not_eq_true'] at h
  refine ⟨(okc_no h.1).1, ?_⟩
  rw [sg_vis h.2, (okc_no h.1).2, lower_ascii (by simpa using h2)]
  simp [tl]
theorem sg_un {k : Int} (h0 : 0 ≤ k) (h1 : k < 27) : Sg (unseenCp k).toNat [] := by
  obtain ⟨n, rfl⟩ := Int.eq_ofNat_of_zero_le h0
  have h := List.all_eq_true.mp hidT n (List.mem_range.mpr (by (first | lia | omega)))
  simp only [Bool.and_eq_true] at h
  exact ⟨(okc_no h.1).1, sg_hid h.2⟩
noncomputable def lets : List Nat := [115, 116, 107, 109, 102, 105]
theorem sg_form {c : Nat} {k : Int} (hc : c ∈ lets) (h0 : 0 ≤ k) (h1 : k < 12) : Sg (formCp c k).toNat [c] := by
  by_cases e0 : k = 0
  · subst e0
    have e : (formCp c 0).toNat = c := by unfold formCp; rw [if_pos rfl]; rfl
    rw [e]
    have hp := List.all_eq_true.mp plainT c (by simp only [lets, List.mem_cons, List.not_mem_nil, or_false] at hc ⊢; (first | lia | omega))
    have r := sg_plain hp (by simp only [lets, List.mem_cons, List.not_mem_nil, or_false] at hc; (first | lia | omega))
    have e2 : lo1 c = c := by unfold lo1; rw [if_neg]; simp only [lets, List.mem_cons, List.not_mem_nil, or_false] at hc; (first | lia | omega)
    rw [e2] at r
    exact r
  · by_cases e1 : k = 1
    · subst e1
      have e : (formCp c 1).toNat = c - 32 := by unfold formCp; rw [if_neg (by decide), if_pos rfl]; (first | lia | omega)
      rw [e]
      have hp := List.all_eq_true.mp plainT (c - 32) (by simp only [lets, List.mem_cons, List.not_mem_nil, or_false] at hc ⊢; (first | lia | omega))
      have r := sg_plain hp (by simp only [lets, List.mem_cons, List.not_mem_nil, or_false] at hc; (first | lia | omega))
      have e2 : lo1 (c - 32) = c := by
        simp only [lets, List.mem_cons, List.not_mem_nil, or_false] at hc
        unfold lo1; rw [if_pos (by (first | lia | omega))]; (first | lia | omega)
      rw [e2] at r
      exact r
    · obtain ⟨n, hn⟩ := Int.eq_ofNat_of_zero_le (by (first | lia | omega) : 0 ≤ k - 2)
      have hk : k = (n : Int) + 2 := by (first | lia | omega)
      subst hk
      have h := List.all_eq_true.mp (List.all_eq_true.mp mathT c hc) n (List.mem_range.mpr (by (first | lia | omega)))
      exact sg_tab h (Nat.le_refl 1) (Nat.succ_le_succ (Nat.zero_le 3))
theorem sg_both {l : List Nat} {b : Int} (h : bothF ⟨l.toArray⟩ = some b) : Sg b.toNat l := by
  have key : ∀ p ∈ [(223, [115, 115]), (64262, [115, 116]), (13261, [107, 107]), (13262, [107, 109]), (64256, [102, 102]), (64257, [102, 105])], Sg p.1 p.2 := by
    intro p hp
    have h := List.all_eq_true.mp bothT p hp
    refine sg_tab h ?_ ?_
    · simp only [List.mem_cons, List.not_mem_nil, or_false] at hp
      rcases hp with rfl | rfl | rfl | rfl | rfl | rfl <;> decide
    · simp only [List.mem_cons, List.not_mem_nil, or_false] at hp
      rcases hp with rfl | rfl | rfl | rfl | rfl | rfl <;> decide
  have tlx : ∀ {x : Str}, (⟨l.toArray⟩ : Str) = x → l = tl x := fun e => by rw [← e]
  unfold bothF at h
  split at h
  · cases h; rename_i e; rw [show l = [115, 115] from tlx e]; exact key (223, [115, 115]) (by simp)
  split at h
  · cases h; rename_i e; rw [show l = [115, 116] from tlx e]; exact key (64262, [115, 116]) (by simp)
  split at h
  · cases h; rename_i e; rw [show l = [107, 107] from tlx e]; exact key (13261, [107, 107]) (by simp)
  split at h
  · cases h; rename_i e; rw [show l = [107, 109] from tlx e]; exact key (13262, [107, 109]) (by simp)
  split at h
  · cases h; rename_i e; rw [show l = [102, 102] from tlx e]; exact key (64256, [102, 102]) (by simp)
  split at h
  · cases h; rename_i e; rw [show l = [102, 105] from tlx e]; exact key (64257, [102, 105]) (by simp)
  · cases h
/-- a text that is read as l -/
structure Rd (x l : List Nat) : Prop where
  ok : ∀ c ∈ x, Okc c
  rd : x.flatMap sg = l
theorem Rd.nil : Rd [] [] := ⟨by simp, rfl⟩
theorem Rd.app {x y l m : List Nat} (a : Rd x l) (b : Rd y m) : Rd (x ++ y) (l ++ m) := ⟨fun c hc => by
  rcases List.mem_append.mp hc with h | h
  · exact a.ok c h
  · exact b.ok c h, by rw [List.flatMap_append, a.rd, b.rd]⟩
theorem Rd.one {c : Nat} {l : List Nat} (h : Sg c l) : Rd [c] l := ⟨by simpa using h.1, by simpa using h.2⟩
theorem rd_ahead (r : Int) : Rd (tl (aheadS r)) [] := by
  unfold aheadS
  split
  · have := fmB (Int.fdiv r 120) 28 (by decide)
    exact Rd.one (sg_un (by (first | lia | omega)) (by (first | lia | omega)))
  · exact Rd.nil
theorem rd_forms (l : List Nat) (r : Int) (hl : WordOk l) (hc : ∀ c ∈ l, c ∈ lets) : Rd (tl (Txt.join (Str.ofString "") (formsL l r))) l := by
  rw [tl_join]
  rcases l with _ | ⟨a, _ | ⟨b, _ | ⟨c, l⟩⟩⟩
  · exact Rd.nil
  · have h := fmB (Int.fdiv r 10 + 5 * (0 + ((0 : Nat) : Int))) 12 (by decide)
    exact Rd.one (sg_form (hc a (by simp)) h.1 h.2)
  · have h := fmB (Int.fdiv r 10 + 5 * (0 + ((0 : Nat) : Int))) 12 (by decide)
    have g := fmB (Int.fdiv r 10 + 5 * (0 + ((1 : Nat) : Int))) 12 (by decide)
    exact (Rd.one (sg_form (hc a (by simp)) h.1 h.2)).app (Rd.one (sg_form (hc b (by simp)) g.1 g.2))
  · have := hl.len; simp at this
theorem rd_typed (l : List Nat) (r : Int) (hl : WordOk l) (hc : ∀ c ∈ l, c ∈ lets) : Rd (tl (typedS l r)) l := by
  have f := (rd_ahead r).app (rd_forms l r hl hc)
  unfold typedS
  rw [tl_append]
  split
  · split
    · rename_i b hb
      exact (rd_ahead r).app (Rd.one (sg_both hb))
    · exact f
  · exact f
theorem len_typed (l : List Nat) (r : Int) (hl : WordOk l) : (typedS l r).length ≤ 3 := by
  have ha := ahead_len r
  have hf : (Txt.join (Str.ofString "") (formsL l r)).length ≤ 2 := by
    rw [← tl_len, tl_join]
    rcases l with _ | ⟨a, _ | ⟨b, _ | ⟨c, l⟩⟩⟩
    · exact Nat.zero_le _
    · exact (by decide : 1 ≤ 2)
    · exact Nat.le_refl 2
    · have := hl.len; simp at this
  unfold typedS
  rw [Str.length_append]
  split
  · split
    · have : (⟨#[Int.toNat ‹Int›]⟩ : Str).length = 1 := rfl
      (first | lia | omega)
    · (first | lia | omega)
  · (first | lia | omega)
theorem flat_sigs : ∀ x : List Nat, (sigs x).flatMap tl = x.flatMap sg
  | [] => rfl
  | c :: x => by
    have e : sigs (c :: x) = sigs [c] ++ sigs x := by
      unfold sigs
      rw [show c :: x = [c] ++ x from rfl, List.filter_append, List.map_append]
    rw [e, List.flatMap_append, flat_sigs x]
    rfl
theorem rd_join {x : Str} {l : List Nat} (h : Rd (tl x) l) : Txt.join (Str.ofString "") (sigs (tl x)) = ⟨l.toArray⟩ := by
  refine tl_ext ?_
  rw [tl_join, flat_sigs, h.rd, tl_mk]
end Mine
end

section
open PySem PySem.W PyProof.Rows
set_option maxRecDepth 100000
namespace Mine
/-- letters as numbers: 0 up, 1 down, 2 and 3 the same upper, 4.. x y a B z A b -/
noncomputable def lowA (a : Nat) : Nat := if a = 2 then 0 else if a = 3 then 1 else if a = 7 then 10 else if a = 9 then 6 else a
noncomputable def scA (c a : Nat) : Int := if c = a then 0 else if lowA c = lowA a then 1 else 2
noncomputable def inStepA (c a : Nat) (i : Nat) (st : LSt) : LSt :=
  let d := st.row.getD i 0
  let r := pmin (pmin st.r d + 2) (st.d + scA c a)
  ⟨d, r, if r < st.mn then r else st.mn, st.row.set i r⟩
noncomputable def inGoA (c : Nat) : List Nat → Nat → LSt → LSt
  | [], _, st => st
  | a :: as, i, st => inGoA c as (i + 1) (inStepA c a i st)
noncomputable def outGoA (A : List Nat) (mx : Int) : List Nat → Nat → List Int → Int → Int
  | [], _, _, r => r
  | c :: cs, j, row, _ =>
    let st := inGoA c A 0 ⟨2 * j, 2 * j, 9223372036854775807, row⟩
    if mx < st.mn then mx + 1 else outGoA A mx cs (j + 1) st.row st.r
noncomputable def levCoreA (A B : List Nat) (mx : Int) : Int := if mx < ((B.length : Int) - A.length) * 2 then mx + 1 else outGoA A mx B 0 (row0 A.length) 0
noncomputable def levTailA (A B : List Nat) (mx : Int) : Int :=
  if A.isEmpty || B.isEmpty then 2 * ((A.length : Int) + B.length)
  else if A.length > 40 || B.length > 40 then mx + 1
  else if B.length < A.length then levCoreA B A mx else levCoreA A B mx
noncomputable def levA (X Y : List Nat) (mx : Int) : Int :=
  if X = Y then 0 else
    let p := dropPre X Y
    let q := dropPre p.1.reverse p.2.reverse
    levTailA q.1.reverse q.2.reverse mx
noncomputable def wordA (k : Nat) : List Nat := if k = 0 then [0] else if k = 1 then [0, 0] else if k = 2 then [1] else if k = 3 then [1, 1] else [1, 0]
noncomputable def rulA (ri fa n : Nat) : List Nat := List.replicate n (if ri = 1 then 2 else 0) ++ List.replicate n (if fa = 1 then 3 else 1)
noncomputable def climb (ri fa : Int) : List Nat → Int → Int → Int
  | [], _, best => best
  | a :: r, cur, best => let c := if a = 0 then cur + ri else cur - fa; climb ri fa r c (if best < c then c else best)
noncomputable def cnt1 (X : List Nat) : Nat := (X.filter fun a => a == 1).length
noncomputable def chk (ka kb kc ri fa : Nat) : Bool :=
  let X := wordA ka ++ wordA kb ++ wordA kc
  let n := X.length
  let R := rulA ri fa n
  let top : Int := 4 * n - fa * cnt1 X
  let h := climb ri fa X 0 0
  decide (top - levA X R top = h) && decide (top - levA R X top = h) && decide (levA R X (2 * n - 1) = 2 * n) && decide (levA (wordA ka) X (-1) = 2 * ((n : Int) - (wordA ka).length)) && decide (levA X (wordA kc) (-1) = 2 * ((n : Int) - (wordA kc).length))
    && decide (0 ≤ h ∧ h ≤ 100) && decide (0 ≤ top ∧ top ≤ 100)
noncomputable def phi (U V n : Nat) : Nat := if n = 0 then U else if n = 1 then V else if n = 2 then U - 32 else if n = 3 then V - 32 else if n = 4 then 120 else if n = 5 then 121 else if n = 6 then 97 else if n = 7 then 66 else if n = 8 then 122 else if n = 9 then 65 else if n = 10 then 98 else n + 1000
noncomputable def scF (c a : Nat) : Int := if c = a then 0 else if lo1 c = lo1 a then 1 else 2
theorem scL_F {c a : Nat} (hc : c < 128) (ha : a < 128) : scL c a = scF c a := by
  unfold scL scF
  rw [lower_ascii (x := ⟨#[c]⟩) (by simpa using hc), lower_ascii (x := ⟨#[a]⟩) (by simpa using ha)]
  simp
theorem phi_fin : (pairs6.all fun p => (List.range 11).all fun a => Nat.ble (phi p.1 p.2 a) 127 && (List.range 11).all fun b => (decide (scF (phi p.1 p.2 a) (phi p.1 p.2 b) = scA a b)) && (phi p.1 p.2 a != phi p.1 p.2 b || a == b)) = true := by decide +kernel
theorem phi_at {U V a : Nat} (h : (U, V) ∈ pairs6) (ha : a ≤ 10) : phi U V a ≤ 127 ∧ ∀ b, b ≤ 10 → scF (phi U V a) (phi U V b) = scA a b ∧ (phi U V a = phi U V b → a = b) := by
  have h1 := List.all_eq_true.mp (List.all_eq_true.mp phi_fin _ h) a (List.mem_range.mpr (by (first | lia | omega)))
  simp only [Bool.and_eq_true] at h1
  refine ⟨Nat.le_of_ble_eq_true h1.1, fun b hb => ?_⟩
  have h2 := List.all_eq_true.mp h1.2 b (List.mem_range.mpr (by (first | lia | omega)))
  simp only [Bool.and_eq_true, decide_eq_true_eq, Bool.or_eq_true, bne_iff_ne, beq_iff_eq, ne_eq] at h2
  exact ⟨h2.1, fun e => h2.2.resolve_left fun n => n e⟩
theorem phi_big {U V a : Nat} (ha : 10 < a) : phi U V a = a + 1000 := by
  unfold phi
  repeat rw [if_neg (by (first | lia | omega))]
theorem phi_inj {U V : Nat} (h : (U, V) ∈ pairs6) {a b : Nat} (e : phi U V a = phi U V b) : a = b := by
  rcases Nat.lt_or_ge 10 a with ha | ha
  · rcases Nat.lt_or_ge 10 b with hb | hb
    · rw [phi_big ha, phi_big hb] at e; (first | lia | omega)
    · have := (phi_at h hb).1
      rw [phi_big ha] at e; (first | lia | omega)
  · rcases Nat.lt_or_ge 10 b with hb | hb
    · have := (phi_at h ha).1
      rw [phi_big hb] at e; (first | lia | omega)
    · exact ((phi_at h ha).2 b hb).2 e
theorem phi_sc {U V : Nat} (h : (U, V) ∈ pairs6) {a b : Nat} (ha : a ≤ 10) (hb : b ≤ 10) : scL (phi U V a) (phi U V b) = scA a b := by
  have h1 := (phi_at h ha).1
  have h2 := (phi_at h hb).1
  rw [scL_F (by (first | lia | omega)) (by (first | lia | omega))]
  exact ((phi_at h ha).2 b hb).1
section
variable {U V : Nat} (h : (U, V) ∈ pairs6)
include h
theorem inGo_map {c : Nat} (hc : c ≤ 10) : ∀ (A : List Nat) (i : Nat) (st : LSt), (∀ a ∈ A, a ≤ 10) → inGo (phi U V c) (A.map (phi U V)) i st = inGoA c A i st
  | [], _, _, _ => rfl
  | a :: A, i, st, hA => by
    show inGo _ (A.map _) (i + 1) (inStep (phi U V c) (phi U V a) i st) = inGoA c A (i + 1) (inStepA c a i st)
    have e : inStep (phi U V c) (phi U V a) i st = inStepA c a i st := by
      unfold inStep inStepA
      rw [phi_sc h hc (hA a (by simp))]
    rw [e]
    exact inGo_map hc A (i + 1) _ fun b hb => hA b (by simp [hb])
theorem outGo_map {A : List Nat} {mx : Int} (hA : ∀ a ∈ A, a ≤ 10) : ∀ (B : List Nat) (j : Nat) (row : List Int) (r : Int), (∀ b ∈ B, b ≤ 10) → outGo (A.map (phi U V)) mx (B.map (phi U V)) j row r = outGoA A mx B j row r
  | [], _, _, _, _ => rfl
  | c :: cs, j, row, r, hB => by
    simp only [List.map_cons, outGo, outGoA, inGo_map h (hB c (by simp)) A 0 _ hA]
    split
    · rfl
    · exact outGo_map hA cs (j + 1) _ _ fun b hb => hB b (by simp [hb])
theorem levCore_map {A B : List Nat} {mx : Int} (hA : ∀ a ∈ A, a ≤ 10) (hB : ∀ b ∈ B, b ≤ 10) : levCore (A.map (phi U V)) (B.map (phi U V)) mx = levCoreA A B mx := by
  unfold levCore levCoreA
  rw [List.length_map, List.length_map, outGo_map h hA B _ _ _ hB]
theorem levTail_map {A B : List Nat} {mx : Int} (hA : ∀ a ∈ A, a ≤ 10) (hB : ∀ b ∈ B, b ≤ 10) : levTail (A.map (phi U V)) (B.map (phi U V)) mx = levTailA A B mx := by
  unfold levTail levTailA
  rw [List.length_map, List.length_map, levCore_map h hA hB, levCore_map h hB hA, List.isEmpty_map, List.isEmpty_map]
theorem dropPre_map : ∀ (X Y : List Nat), dropPre (X.map (phi U V)) (Y.map (phi U V)) = ((dropPre X Y).1.map (phi U V), (dropPre X Y).2.map (phi U V))
  | [], Y => by simp [dropPre]
  | a :: X, [] => by simp [dropPre]
  | a :: X, b :: Y => by
    simp only [List.map_cons, dropPre]
    by_cases e : a = b
    · rw [if_pos e, if_pos (by rw [e])]
      exact dropPre_map X Y
    · rw [if_neg e, if_neg fun n => e (phi_inj h n)]
      simp
omit h in
theorem dropPre_le : ∀ (X Y : List Nat), (∀ a ∈ X, a ≤ 10) → (∀ a ∈ Y, a ≤ 10) → (∀ a ∈ (dropPre X Y).1, a ≤ 10) ∧ (∀ a ∈ (dropPre X Y).2, a ≤ 10)
  | [], Y, hX, hY => by simp [dropPre]; exact hY
  | a :: X, [], hX, hY => by simp only [dropPre]; exact ⟨hX, hY⟩
  | a :: X, b :: Y, hX, hY => by
    simp only [dropPre]
    by_cases e : a = b
    · rw [if_pos e]
      exact dropPre_le X Y (fun c hc => hX c (by simp [hc])) (fun c hc => hY c (by simp [hc]))
    · rw [if_neg e]
      exact ⟨hX, hY⟩
theorem levL_map {X Y : List Nat} {mx : Int} (hX : ∀ a ∈ X, a ≤ 10) (hY : ∀ a ∈ Y, a ≤ 10) : levL (X.map (phi U V)) (Y.map (phi U V)) mx = levA X Y mx := by
  unfold levL levA
  by_cases e : X = Y
  · rw [if_pos e, if_pos (by rw [e])]
  · rw [if_neg e, if_neg fun n => e (List.map_inj_right (fun a b => phi_inj h) |>.mp n)]
    have h1 := dropPre_le X Y hX hY
    have r1 : ∀ a ∈ (dropPre X Y).1.reverse, a ≤ 10 := fun a ha => h1.1 a (List.mem_reverse.mp ha)
    have r2 : ∀ a ∈ (dropPre X Y).2.reverse, a ≤ 10 := fun a ha => h1.2 a (List.mem_reverse.mp ha)
    have h2 := dropPre_le _ _ r1 r2
    simp only [dropPre_map h, ← List.map_reverse]
    exact levTail_map h (fun a ha => h2.1 a (List.mem_reverse.mp ha)) (fun a ha => h2.2 a (List.mem_reverse.mp ha))
end
end Mine
end

section
open PySem PySem.W PyProof.Rows
set_option maxRecDepth 100000
namespace Mine
theorem chk_0_1_1 : ((List.range 5).all fun b => (List.range 5).all fun c => chk 0 b c 1 1) = true := by decide +kernel
theorem chk_0_1_2 : ((List.range 5).all fun b => (List.range 5).all fun c => chk 0 b c 1 2) = true := by decide +kernel
theorem chk_0_2_1 : ((List.range 5).all fun b => (List.range 5).all fun c => chk 0 b c 2 1) = true := by decide +kernel
theorem chk_0_2_2 : ((List.range 5).all fun b => (List.range 5).all fun c => chk 0 b c 2 2) = true := by decide +kernel
theorem chk_1_1_1 : ((List.range 5).all fun b => (List.range 5).all fun c => chk 1 b c 1 1) = true := by decide +kernel
theorem chk_1_1_2 : ((List.range 5).all fun b => (List.range 5).all fun c => chk 1 b c 1 2) = true := by decide +kernel
theorem chk_1_2_1 : ((List.range 5).all fun b => (List.range 5).all fun c => chk 1 b c 2 1) = true := by decide +kernel
theorem chk_1_2_2 : ((List.range 5).all fun b => (List.range 5).all fun c => chk 1 b c 2 2) = true := by decide +kernel
theorem chk_2_1_1 : ((List.range 5).all fun b => (List.range 5).all fun c => chk 2 b c 1 1) = true := by decide +kernel
theorem chk_2_1_2 : ((List.range 5).all fun b => (List.range 5).all fun c => chk 2 b c 1 2) = true := by decide +kernel
theorem chk_2_2_1 : ((List.range 5).all fun b => (List.range 5).all fun c => chk 2 b c 2 1) = true := by decide +kernel
theorem chk_2_2_2 : ((List.range 5).all fun b => (List.range 5).all fun c => chk 2 b c 2 2) = true := by decide +kernel
theorem chk_3_1_1 : ((List.range 5).all fun b => (List.range 5).all fun c => chk 3 b c 1 1) = true := by decide +kernel
theorem chk_3_1_2 : ((List.range 5).all fun b => (List.range 5).all fun c => chk 3 b c 1 2) = true := by decide +kernel
theorem chk_3_2_1 : ((List.range 5).all fun b => (List.range 5).all fun c => chk 3 b c 2 1) = true := by decide +kernel
theorem chk_3_2_2 : ((List.range 5).all fun b => (List.range 5).all fun c => chk 3 b c 2 2) = true := by decide +kernel
theorem chk_4_1_1 : ((List.range 5).all fun b => (List.range 5).all fun c => chk 4 b c 1 1) = true := by decide +kernel
theorem chk_4_1_2 : ((List.range 5).all fun b => (List.range 5).all fun c => chk 4 b c 1 2) = true := by decide +kernel
theorem chk_4_2_1 : ((List.range 5).all fun b => (List.range 5).all fun c => chk 4 b c 2 1) = true := by decide +kernel
theorem chk_4_2_2 : ((List.range 5).all fun b => (List.range 5).all fun c => chk 4 b c 2 2) = true := by decide +kernel
theorem chk_at {a b c ri fa : Nat} (h : ((List.range 5).all fun b => (List.range 5).all fun c => chk a b c ri fa) = true) (hb : b < 5) (hc : c < 5) : chk a b c ri fa = true :=
  List.all_eq_true.mp (List.all_eq_true.mp h b (List.mem_range.mpr hb)) c (List.mem_range.mpr hc)
theorem chk_all {a b c ri fa : Nat} (ha : a < 5) (hb : b < 5) (hc : c < 5) (hri : ri = 1 ∨ ri = 2) (hfa : fa = 1 ∨ fa = 2) : chk a b c ri fa = true := by
  have e : a = 0 ∨ a = 1 ∨ a = 2 ∨ a = 3 ∨ a = 4 := by (first | lia | omega)
  rcases e with rfl | rfl | rfl | rfl | rfl <;> rcases hri with rfl | rfl <;> rcases hfa with rfl | rfl
  · exact chk_at chk_0_1_1 hb hc
  · exact chk_at chk_0_1_2 hb hc
  · exact chk_at chk_0_2_1 hb hc
  · exact chk_at chk_0_2_2 hb hc
  · exact chk_at chk_1_1_1 hb hc
  · exact chk_at chk_1_1_2 hb hc
  · exact chk_at chk_1_2_1 hb hc
  · exact chk_at chk_1_2_2 hb hc
  · exact chk_at chk_2_1_1 hb hc
  · exact chk_at chk_2_1_2 hb hc
  · exact chk_at chk_2_2_1 hb hc
  · exact chk_at chk_2_2_2 hb hc
  · exact chk_at chk_3_1_1 hb hc
  · exact chk_at chk_3_1_2 hb hc
  · exact chk_at chk_3_2_1 hb hc
  · exact chk_at chk_3_2_2 hb hc
  · exact chk_at chk_4_1_1 hb hc
  · exact chk_at chk_4_1_2 hb hc
  · exact chk_at chk_4_2_1 hb hc
  · exact chk_at chk_4_2_2 hb hc
noncomputable def hsL (ri fa : Int) (a b c : List Nat) : List Int := [climb ri fa (a ++ b ++ c) 0 0, climb ri fa (a ++ c ++ b) 0 0, climb ri fa (b ++ a ++ c) 0 0, climb ri fa (b ++ c ++ a) 0 0, climb ri fa (c ++ a ++ b) 0 0, climb ri fa (c ++ b ++ a) 0 0]
noncomputable def cnt0 (X : List Nat) : Nat := (X.filter fun a => a == 0).length
noncomputable def stpA (ri fa : Int) (a : List Nat) : Int := ri * cnt0 a - fa * cnt1 a
noncomputable def chkB (k0 k1 k2 ri fa : Nat) : Bool :=
  let hs := hsL ri fa (wordA k0) (wordA k1) (wordA k2)
  let rs := ringsL (stpA ri fa (wordA k0)) (stpA ri fa (wordA k1)) (stpA ri fa (wordA k2))
  (hs.all fun h => decide (cntI hs h = cntI rs h)) && rs.all smallInt
theorem chkB_1_1 : ((List.range 5).all fun a => (List.range 5).all fun b => (List.range 5).all fun c => chkB a b c 1 1) = true := by decide +kernel
theorem chkB_1_2 : ((List.range 5).all fun a => (List.range 5).all fun b => (List.range 5).all fun c => chkB a b c 1 2) = true := by decide +kernel
theorem chkB_2_1 : ((List.range 5).all fun a => (List.range 5).all fun b => (List.range 5).all fun c => chkB a b c 2 1) = true := by decide +kernel
theorem chkB_2_2 : ((List.range 5).all fun a => (List.range 5).all fun b => (List.range 5).all fun c => chkB a b c 2 2) = true := by decide +kernel
theorem chkB_at {a b c ri fa : Nat} (h : ((List.range 5).all fun a => (List.range 5).all fun b => (List.range 5).all fun c => chkB a b c ri fa) = true) (ha : a < 5) (hb : b < 5) (hc : c < 5) : chkB a b c ri fa = true :=
  List.all_eq_true.mp (List.all_eq_true.mp (List.all_eq_true.mp h a (List.mem_range.mpr ha)) b (List.mem_range.mpr hb)) c (List.mem_range.mpr hc)
theorem chkB_all {a b c ri fa : Nat} (ha : a < 5) (hb : b < 5) (hc : c < 5) (hri : ri = 1 ∨ ri = 2) (hfa : fa = 1 ∨ fa = 2) : chkB a b c ri fa = true := by
  rcases hri with rfl | rfl <;> rcases hfa with rfl | rfl
  · exact chkB_at chkB_1_1 ha hb hc
  · exact chkB_at chkB_1_2 ha hb hc
  · exact chkB_at chkB_2_1 ha hb hc
  · exact chkB_at chkB_2_2 ha hb hc
noncomputable def hds : List (List Nat) := [[0, 0, 0], [0, 0, 1], [0, 1, 0], [0, 1, 1], [1, 0, 0], [1, 0, 1], [1, 1, 0], [1, 1, 1]]
noncomputable def upA (a : Nat) : Nat := if a ≤ 1 then a + 2 else a
theorem hds_ok : (hds.all fun d => decide (levA (d ++ [4, 5, 6, 7]) ([4] ++ d ++ [8, 9, 10]) 8 = 8) && decide (levA (d ++ [4, 5, 6, 7]) ([4] ++ d ++ [8, 9, 10]) 1 = 2) && decide (levA d (d.map upA) 3 = 3) && d.all (fun a => Nat.ble a 1)) = true := by decide +kernel
theorem hd_in : ((List.range 5).all fun a => (List.range 5).all fun b => (List.range 5).all fun c => hds.contains ((wordA a ++ wordA b ++ wordA c).take 3) && Nat.ble 3 (wordA a ++ wordA b ++ wordA c).length && decide (levA (wordA a ++ wordA b ++ wordA c) (List.replicate 41 4) 99 = 100)) = true := by decide +kernel
theorem hd_at {a b c : Nat} (ha : a < 5) (hb : b < 5) (hc : c < 5) : (wordA a ++ wordA b ++ wordA c).take 3 ∈ hds ∧ 3 ≤ (wordA a ++ wordA b ++ wordA c).length ∧ levA (wordA a ++ wordA b ++ wordA c) (List.replicate 41 4) 99 = 100 := by
  have h := List.all_eq_true.mp (List.all_eq_true.mp (List.all_eq_true.mp hd_in a (List.mem_range.mpr ha)) b (List.mem_range.mpr hb)) c (List.mem_range.mpr hc)
  simp only [Bool.and_eq_true, decide_eq_true_eq, List.contains_iff_mem] at h
  exact ⟨h.1.1, Nat.le_of_ble_eq_true h.1.2, h.2⟩
end Mine
end

section
open PySem PySem.W PyProof.Rows
set_option maxRecDepth 100000
namespace Mine
theorem slice_to {x : Str} {j : Int} (h0 : 0 ≤ j) (h1 : j ≤ x.length) : tl (Txt.slice x none (some j)) = (tl x).take j.toNat := by
  have := slice_closes_toL h0 h1
  rw [beq_iff_eq.mp this]
  simp [tl]
theorem wordA_le (k : Nat) : ∀ a ∈ wordA k, a ≤ 1 := by
  unfold wordA
  repeat' split
  all_goals (intro a ha; simp at ha; (first | lia | omega))
theorem cnts : (pairs6.all fun p => (List.range 5).all fun k => decide (cntV p.2 ⟨((wordA k).map (phi p.1 p.2)).toArray⟩ = cnt1 (wordA k)) && decide (cntN ((wordA k).map (phi p.1 p.2)) p.1 = cnt0 (wordA k)) && decide (cntN ((wordA k).map (phi p.1 p.2)) p.2 = cnt1 (wordA k)) && Nat.ble 1 (wordA k).length && Nat.ble (wordA k).length 2) = true := by decide +kernel
theorem cnt1_app (x y : List Nat) : cnt1 (x ++ y) = cnt1 x + cnt1 y := by simp [cnt1]
theorem up_one {U : Nat} (h : 97 ≤ U ∧ U ≤ 122) : Txt.upper ⟨#[U]⟩ = ⟨#[U - 32]⟩ := by
  rw [upper_ascii (by simp; (first | lia | omega))]
  simp only [up1, List.map_toArray, List.map_cons, List.map_nil, if_pos h]
section
variable {U V : Nat} (h : (U, V) ∈ pairs6) {ri fa : Nat} (hri : ri = 1 ∨ ri = 2) (hfa : fa = 1 ∨ fa = 2) {κ : Nat → Nat} (hκ : ∀ i, κ i < 5) {W T : Nat → Str} (hW : ∀ i, tl (W i) = (wordA (κ i)).map (phi U V))
include h hκ hW
theorem cnt_at (i : Nat) : cntV V (W i) = cnt1 (wordA (κ i)) ∧ cntN (tl (W i)) U = cnt0 (wordA (κ i)) ∧ cntN (tl (W i)) V = cnt1 (wordA (κ i)) ∧ 1 ≤ (wordA (κ i)).length ∧ (wordA (κ i)).length ≤ 2 := by
  have g := List.all_eq_true.mp (List.all_eq_true.mp cnts _ h) (κ i) (List.mem_range.mpr (hκ i))
  simp only [Bool.and_eq_true, decide_eq_true_eq] at g
  have e : W i = ⟨((wordA (κ i)).map (phi U V)).toArray⟩ := tl_ext (by rw [hW, tl_mk])
  refine ⟨by rw [e]; exact g.1.1.1.1, by rw [hW]; exact g.1.1.1.2, by rw [hW]; exact g.1.1.2, Nat.le_of_ble_eq_true g.1.2, Nat.le_of_ble_eq_true g.2⟩
omit h hκ in
theorem len_at (i : Nat) : (W i).length = (wordA (κ i)).length := by rw [← tl_len, hW, List.length_map]
omit h hκ in
theorem tl_cat (i j k : Nat) : tl (cat3 W i j k) = (wordA (κ i) ++ wordA (κ j) ++ wordA (κ k)).map (phi U V) := by
  show tl (W i ++ W j ++ W k) = _
  rw [tl_append, tl_append, hW, hW, hW, List.map_append, List.map_append]
omit h hκ in
theorem len_cat {i j k : Nat} (hP : P3 i j k) : (((wordA (κ i) ++ wordA (κ j) ++ wordA (κ k)).length : Nat) : Int) = nW W := by
  unfold nW
  rw [len_at hW 0, len_at hW 1, len_at hW 2]
  simp only [List.length_append]
  obtain ⟨a, b, c, d, e, f⟩ := hP
  have hi : i = 0 ∨ i = 1 ∨ i = 2 := by (first | lia | omega)
  have hj : j = 0 ∨ j = 1 ∨ j = 2 := by (first | lia | omega)
  have hk : k = 0 ∨ k = 1 ∨ k = 2 := by (first | lia | omega)
  rcases hi with rfl | rfl | rfl <;> rcases hj with rfl | rfl | rfl <;> rcases hk with rfl | rfl | rfl <;> (first | lia | omega)
theorem top_cat {i j k : Nat} (hP : P3 i j k) : topW V (fa : Int) W = 4 * (((wordA (κ i) ++ wordA (κ j) ++ wordA (κ k)).length : Nat) : Int) - (fa : Int) * (cnt1 (wordA (κ i) ++ wordA (κ j) ++ wordA (κ k)) : Nat) := by
  have e : (cntV V (W 0) + cntV V (W 1) + cntV V (W 2) : Int) = (cnt1 (wordA (κ i) ++ wordA (κ j) ++ wordA (κ k)) : Nat) := by
    rw [(cnt_at h hκ hW 0).1, (cnt_at h hκ hW 1).1, (cnt_at h hκ hW 2).1, cnt1_app, cnt1_app]
    obtain ⟨a, b, c, d, e, f⟩ := hP
    have hi : i = 0 ∨ i = 1 ∨ i = 2 := by (first | lia | omega)
    have hj : j = 0 ∨ j = 1 ∨ j = 2 := by (first | lia | omega)
    have hk : k = 0 ∨ k = 1 ∨ k = 2 := by (first | lia | omega)
    rcases hi with rfl | rfl | rfl <;> rcases hj with rfl | rfl | rfl <;> rcases hk with rfl | rfl | rfl <;> (first | lia | omega)
  unfold topW
  rw [e, len_cat hW hP]
omit hκ in
theorem tl_ruler {i j k : Nat} (hri : ri = 1 ∨ ri = 2) (hfa : fa = 1 ∨ fa = 2) (hP : P3 i j k) : tl (rulerS U V (ri : Int) (fa : Int) (nW W)) = (rulA ri fa (wordA (κ i) ++ wordA (κ j) ++ wordA (κ k)).length).map (phi U V) := by
  have hp := pair6_ok h
  unfold rulerS rulA
  rw [tl_append, ← len_cat hW hP, List.map_append, List.map_replicate, List.map_replicate]
  have e1 : (if (ri : Int) = 1 then Txt.upper ⟨#[U]⟩ else ⟨#[U]⟩) = (⟨#[phi U V (if ri = 1 then 2 else 0)]⟩ : Str) := by
    rcases hri with rfl | rfl
    · exact up_one hp.1
    · rfl
  have e2 : (if (fa : Int) = 1 then Txt.upper ⟨#[V]⟩ else ⟨#[V]⟩) = (⟨#[phi U V (if fa = 1 then 3 else 1)]⟩ : Str) := by
    rcases hfa with rfl | rfl
    · exact up_one hp.2
    · rfl
  rw [e1, e2]
  show (Txt.mul _ _).cps.toList ++ (Txt.mul _ _).cps.toList = _
  rw [mul_one_list, mul_one_list, Int.toNat_natCast]
end
theorem le_word3 (a b c : Nat) : ∀ x ∈ wordA a ++ wordA b ++ wordA c, x ≤ 10 := by
  intro x hx
  rcases List.mem_append.mp hx with hx | hx
  · rcases List.mem_append.mp hx with hx | hx
    · exact Nat.le_trans (wordA_le _ x hx) (by decide)
    · exact Nat.le_trans (wordA_le _ x hx) (by decide)
  · exact Nat.le_trans (wordA_le _ x hx) (by decide)
theorem le_rul (ri fa n : Nat) : ∀ x ∈ rulA ri fa n, x ≤ 10 := by
  intro x hx
  unfold rulA at hx
  rcases List.mem_append.mp hx with hx | hx
  · rw [(List.mem_replicate.mp hx).2]; split <;> decide
  · rw [(List.mem_replicate.mp hx).2]; split <;> decide
theorem wordLe (k : Nat) : ∀ x ∈ wordA k, x ≤ 10 := fun x hx => Nat.le_trans (wordA_le _ x hx) (by decide)
theorem up_map {U V : Nat} (h : (U, V) ∈ pairs6) {d : List Nat} (hd : ∀ a ∈ d, a ≤ 1) : (d.map (phi U V)).map up1 = (d.map upA).map (phi U V) := by
  have hp := pair6_ok h
  rw [List.map_map, List.map_map]
  refine List.map_congr_left fun a ha => ?_
  have := hd a ha
  have e : a = 0 ∨ a = 1 := by (first | lia | omega)
  rcases e with rfl | rfl
  · show up1 U = U - 32
    unfold up1; rw [if_pos hp.1]
  · show up1 V = V - 32
    unfold up1; rw [if_pos hp.2]
theorem lawF {U V : Nat} (h : (U, V) ∈ pairs6) {ri fa : Nat} (hri : ri = 1 ∨ ri = 2) (hfa : fa = 1 ∨ fa = 2) {κ : Nat → Nat} (hκ : ∀ i, κ i < 5) {W T : Nat → Str} (hW : ∀ i, tl (W i) = (wordA (κ i)).map (phi U V))
    (hT : ∀ i, Rd (tl (T i)) (tl (W i))) (hTl : ∀ i, (T i).length ≤ 3) : LawF U V (ri : Int) (fa : Int) W T (fun i j k => climb ri fa (wordA (κ i) ++ wordA (κ j) ++ wordA (κ k)) 0 0) := by
  have ck : ∀ i j k, chk (κ i) (κ j) (κ k) ri fa = true := fun i j k => chk_all (hκ i) (hκ j) (hκ k) hri hfa
  have lv : ∀ {x y : Str} {X Y : List Nat} (mx : Int), tl x = X.map (phi U V) → tl y = Y.map (phi U V) → (∀ a ∈ X, a ≤ 10) → (∀ a ∈ Y, a ≤ 10) → levS x y mx = levA X Y mx := fun mx e1 e2 h1 h2 => by
    unfold levS; rw [e1, e2]; exact levL_map h h1 h2
  have hdt := hd_at (hκ 2) (hκ 1) (hκ 0)
  have e210 := tl_cat hW 2 1 0
  have l210 : (3 : Int) ≤ (cat3 W 2 1 0).length := by
    rw [← tl_len, e210, List.length_map]; exact Int.ofNat_le.mpr hdt.2.1
  have ehd : tl (hdS W) = ((wordA (κ 2) ++ wordA (κ 1) ++ wordA (κ 0)).take 3).map (phi U V) := by
    unfold hdS
    rw [slice_to (by decide) l210, e210, List.map_take]
    rfl
  have hdo := List.all_eq_true.mp hds_ok _ hdt.1
  simp only [Bool.and_eq_true, decide_eq_true_eq] at hdo
  have hd1 : ∀ a ∈ (wordA (κ 2) ++ wordA (κ 1) ++ wordA (κ 0)).take 3, a ≤ 1 := fun a ha => Nat.le_of_ble_eq_true (List.all_eq_true.mp hdo.2 a ha)
  have hd10 : ∀ a ∈ (wordA (κ 2) ++ wordA (κ 1) ++ wordA (κ 0)).take 3, a ≤ 10 := fun a ha => Nat.le_trans (hd1 a ha) (by decide)
  have ebe : tl (hdS W ++ Str.ofString "xyaB") = ((wordA (κ 2) ++ wordA (κ 1) ++ wordA (κ 0)).take 3 ++ [4, 5, 6, 7]).map (phi U V) := by
    rw [tl_append, ehd, List.map_append]; rfl
  have eah : tl (Str.ofString "x" ++ hdS W ++ Str.ofString "zAb") = ([4] ++ (wordA (κ 2) ++ wordA (κ 1) ++ wordA (κ 0)).take 3 ++ [8, 9, 10]).map (phi U V) := by
    rw [tl_append, tl_append, ehd, List.map_append, List.map_append]; rfl
  have lbe : ∀ a ∈ (wordA (κ 2) ++ wordA (κ 1) ++ wordA (κ 0)).take 3 ++ [4, 5, 6, 7], a ≤ 10 := by
    intro a ha
    rcases List.mem_append.mp ha with ha | ha
    · exact hd10 a ha
    · simp at ha; (first | lia | omega)
  have lah : ∀ a ∈ [4] ++ (wordA (κ 2) ++ wordA (κ 1) ++ wordA (κ 0)).take 3 ++ [8, 9, 10], a ≤ 10 := by
    intro a ha
    rcases List.mem_append.mp ha with ha | ha
    · rcases List.mem_append.mp ha with ha | ha
      · simp at ha; (first | lia | omega)
      · exact hd10 a ha
    · simp at ha; (first | lia | omega)
  have bl := chkB_all (hκ 0) (hκ 1) (hκ 2) hri hfa
  unfold chkB at bl
  simp only [Bool.and_eq_true] at bl
  have st : ∀ i, stepW U V (ri : Int) (fa : Int) (W i) = stpA ri fa (wordA (κ i)) := fun i => by
    unfold stepW stpA
    rw [(cnt_at h hκ hW i).2.1, (cnt_at h hκ hW i).2.2.1]
  have wl : ∀ i, 1 ≤ (W i).length ∧ (W i).length ≤ 2 := fun i => by
    rw [len_at hW i]; exact ⟨(cnt_at h hκ hW i).2.2.2.1, (cnt_at h hκ hW i).2.2.2.2⟩
  refine ⟨wl, hTl, fun i => (hT i).ok, ?pr, ?top, ?hgt, ?rl, ?l1, ?l2, ?l3, ?l4, ?l5, ?len, ?hl, ?h1, ?h2, ?h3, ?h4, ?rsm, ?boh⟩
  case pr =>
    intro i j k
    have r := ((hT i).app (hT j)).app (hT k)
    rw [← tl_append, ← tl_append, ← tl_append, ← tl_append] at r
    rw [rd_join r]
    exact tl_ext (tl_mk _)
  case top =>
    have c := ck 0 1 2
    unfold chk at c
    simp only [Bool.and_eq_true, decide_eq_true_eq] at c
    rw [top_cat h hκ hW (i := 0) (j := 1) (k := 2) (by unfold P3; decide)]
    exact c.2
  case hgt =>
    intro i j k
    have c := ck i j k
    unfold chk at c
    simp only [Bool.and_eq_true, decide_eq_true_eq] at c
    exact c.1.2
  case rl =>
    rw [← tl_len, tl_ruler h hW hri hfa (i := 0) (j := 1) (k := 2) (by unfold P3; decide), List.length_map]
    unfold rulA
    rw [List.length_append, List.length_replicate, List.length_replicate]
    have a := (cnt_at h hκ hW 0).2.2.2.2
    have b := (cnt_at h hκ hW 1).2.2.2.2
    have c := (cnt_at h hκ hW 2).2.2.2.2
    simp only [List.length_append]
    (first | lia | omega)
  case l1 =>
    intro i j k hP
    have c := ck i j k
    unfold chk at c
    simp only [Bool.and_eq_true, decide_eq_true_eq] at c
    rw [lv _ (tl_cat hW i j k) (tl_ruler h hW hri hfa hP) (le_word3 _ _ _) (le_rul _ _ _), top_cat h hκ hW hP]
    exact c.1.1.1.1.1.1
  case l2 =>
    intro i j k hP
    have c := ck i j k
    unfold chk at c
    simp only [Bool.and_eq_true, decide_eq_true_eq] at c
    rw [lv _ (tl_ruler h hW hri hfa hP) (tl_cat hW i j k) (le_rul _ _ _) (le_word3 _ _ _), top_cat h hκ hW hP]
    exact c.1.1.1.1.1.2
  case l3 =>
    intro i j k hP
    have c := ck i j k
    unfold chk at c
    simp only [Bool.and_eq_true, decide_eq_true_eq] at c
    rw [lv _ (tl_ruler h hW hri hfa hP) (tl_cat hW i j k) (le_rul _ _ _) (le_word3 _ _ _), ← len_cat hW hP]
    exact c.1.1.1.1.2
  case l4 =>
    intro i j k hP
    have c := ck i j k
    unfold chk at c
    simp only [Bool.and_eq_true, decide_eq_true_eq] at c
    rw [lv _ (hW i) (tl_cat hW i j k) (wordLe _) (le_word3 _ _ _), ← len_cat hW hP, len_at hW i]
    exact c.1.1.1.2
  case l5 =>
    intro i j k hP
    have c := ck i j k
    unfold chk at c
    simp only [Bool.and_eq_true, decide_eq_true_eq] at c
    rw [lv _ (tl_cat hW i j k) (hW k) (le_word3 _ _ _) (wordLe _), ← len_cat hW hP, len_at hW k]
    exact c.1.1.2
  case len =>
    intro i j k hP
    rw [← len_cat hW hP, ← tl_len, tl_cat hW i j k, List.length_map]
  case hl =>
    rw [← tl_len, ehd, List.length_map]
    exact List.length_take_le ..
  case h1 => rw [lv _ ebe eah lbe lah]; exact hdo.1.1.1
  case h2 => rw [lv _ ebe eah lbe lah]; exact hdo.1.1.2
  case h3 =>
    have eu : tl (Txt.upper (hdS W)) = (((wordA (κ 2) ++ wordA (κ 1) ++ wordA (κ 0)).take 3).map upA).map (phi U V) := by
      rw [upper_ascii, ← up_map h hd1, ← ehd]
      · simp [tl]
      · intro c hc
        rw [show (hdS W).cps.toList = _ from ehd] at hc
        obtain ⟨a, ha, rfl⟩ := List.mem_map.mp hc
        have := (phi_at h (hd10 a ha)).1
        (first | lia | omega)
    rw [lv _ ehd eu hd10 ?_]
    · exact hdo.1.2
    · intro a ha
      obtain ⟨b, hb, rfl⟩ := List.mem_map.mp ha
      have := hd1 b hb
      unfold upA
      split <;> (first | lia | omega)
  case h4 =>
    have ex : tl (Txt.mul (Str.ofString "x") 41) = (List.replicate 41 4).map (phi U V) := by
      rw [List.map_replicate]
      exact mul_one_list 120 41
    rw [lv _ e210 ex (le_word3 _ _ _) (fun a ha => by rw [(List.mem_replicate.mp ha).2]; decide)]
    exact hdt.2.2
  case rsm =>
    rw [st, st, st]
    exact fun x hx => List.all_eq_true.mp bl.2 x hx
  case boh =>
    rw [st, st, st]
    intro x hx
    have := List.all_eq_true.mp bl.1 x hx
    exact of_decide_eq_true this
end Mine
end

section
open PySem PySem.W PyProof.Rows
set_option maxRecDepth 100000
namespace Mine
theorem wordN_A {n : Nat} (h : n < 5) (U V : Nat) : wordN (n : Int) U V = (wordA n).map (phi U V) := by
  have e : n = 0 ∨ n = 1 ∨ n = 2 ∨ n = 3 ∨ n = 4 := by (first | lia | omega)
  rcases e with rfl | rfl | rfl | rfl | rfl <;> rfl
theorem wordN_lets (k : Int) {U V : Nat} (h : (U, V) ∈ pairs6) : ∀ c ∈ wordN k U V, c ∈ lets := by
  have key : ∀ p ∈ pairs6, p.1 ∈ lets ∧ p.2 ∈ lets := by decide
  have hp := key _ h
  intro c hc
  unfold wordN at hc
  split at hc
  · simp at hc; rw [hc]; exact hp.1
  split at hc
  · simp at hc; rw [hc]; exact hp.1
  split at hc
  · simp at hc; rw [hc]; exact hp.2
  split at hc
  · simp at hc; rw [hc]; exact hp.2
  · simp at hc
    rcases hc with rfl | rfl
    · exact hp.2
    · exact hp.1
theorem law_LF {U V : Nat} (h : (U, V) ∈ pairs6) {ri fa : Int} (hri : ri = 1 ∨ ri = 2) (hfa : fa = 1 ∨ fa = 2) (x : Nat → Int) :
    ∃ H, LawF U V ri fa (fun i => ⟨(wordN (Int.fmod (x i) 5) U V).toArray⟩) (fun i => typedS (wordN (Int.fmod (x i) 5) U V) (x i)) H := by
  have hk : ∀ i, (Int.fmod (x i) 5).toNat < 5 ∧ (((Int.fmod (x i) 5).toNat : Nat) : Int) = Int.fmod (x i) 5 := fun i => by
    have := fmB (x i) 5 (by decide)
    (first | lia | omega)
  have hok : ∀ i, WordOk (wordN (Int.fmod (x i) 5) U V) := fun i => wordN_ok _ (pair6_ok h).1 (pair6_ok h).2
  have main : ∀ ri fa : Nat, (ri = 1 ∨ ri = 2) → (fa = 1 ∨ fa = 2) → ∃ H, LawF U V (ri : Int) (fa : Int) (fun i => ⟨(wordN (Int.fmod (x i) 5) U V).toArray⟩) (fun i => typedS (wordN (Int.fmod (x i) 5) U V) (x i)) H := fun ri fa hri hfa => by
    refine ⟨_, lawF h hri hfa (κ := fun i => (Int.fmod (x i) 5).toNat) (fun i => (hk i).1) (fun i => ?_) (fun i => ?_) (fun i => len_typed _ _ (hok i))⟩
    · have e := wordN_A (hk i).1 U V
      rw [(hk i).2] at e
      rw [tl_mk]
      exact e
    · rw [tl_mk]
      exact rd_typed _ _ (hok i) (wordN_lets _ h)
  rcases hri with rfl | rfl <;> rcases hfa with rfl | rfl
  · exact main 1 1 (.inl rfl) (.inl rfl)
  · exact main 1 2 (.inl rfl) (.inr rfl)
  · exact main 2 1 (.inr rfl) (.inl rfl)
  · exact main 2 2 (.inr rfl) (.inr rfl)
end Mine
end

section
open PySem PySem.W PyProof.Rows
set_option maxRecDepth 100000
namespace Mine
-- a local whose value a fact tells

local macro_rules | `(tactic| walk_at "subscriptTail Name Name ref int") => `(tactic| (k_here; (with_reducible rename News _ _ _ _ => kN); k_dflt (first | refine item_mem (l := [_, _, _, _]) kN (by k_mem) (by (first | lia | omega)) (by (first | lia | omega)) (by assumption) ?_ | refine item_mem (l := [_, _, _]) kN (by k_mem) (by (first | lia | omega)) (by (first | lia | omega)) (by assumption) ?_)))
theorem wordN_short (k : Int) (U V : Nat) : (⟨(wordN k U V).toArray⟩ : Str).length ≤ 2 := by
  unfold wordN
  repeat' split
  all_goals exact Nat.le_of_ble_eq_true rfl
theorem wordN_fit (k : Int) (U V : Nat) : ¬ (((⟨(wordN k U V).toArray⟩ : Str).length : Int) ≥ 2 ^ 63) := by
  have := wordN_short k U V
  (first | lia | omega)
theorem up_fit {a : Nat} : (⟨#[a]⟩ : Str).length ≤ 5592405 := Nat.le_of_ble_eq_true rfl
theorem add_fit {x y : Str} {n : Int} (hx : x.length ≤ 3) (hy : y.length ≤ 3) (hn : n ≤ ((6 : Nat) : Int)) : (Txt.mul x n).length + (Txt.mul y n).length ≤ sizeLine := by
  have h1 := len_mul_leN (L := 3) hx hn
  have h2 := len_mul_leN (L := 3) hy hn
  rw [sizeLine_eq]
  (first | lia | omega)
theorem up3 (a : Nat) : (Txt.upper ⟨#[a]⟩).length ≤ 3 := len_upper ⟨#[a]⟩
theorem one3 (a : Nat) : (⟨#[a]⟩ : Str).length ≤ 3 := Nat.le_of_ble_eq_true rfl
theorem three_int {i : Nat} {v : Value} {a b c : Tok} (h : [Value.int 0 a, .int 1 b, .int 2 c][i]? = some v) : i < 3 ∧ ∃ t, v = .int (i : Int) t := by
  rcases i with _ | _ | _ | i
  · simp at h; exact ⟨by decide, a, h.symm⟩
  · simp at h; exact ⟨by decide, b, h.symm⟩
  · simp at h; exact ⟨by decide, c, h.symm⟩
  · simp at h
theorem four_at {a b c d : Int} {t u v x : Tok} {i : Nat} (h : i < 3) : ∃ y, [Value.int a t, .int b u, .int c v, .int d x][((i : Nat) : Int).toNat]? = some (.int ([a, b, c, d].getD i 0) y) := by
  rcases i with _ | _ | _ | i
  · exact ⟨t, rfl⟩
  · exact ⟨u, rfl⟩
  · exact ⟨v, rfl⟩
  · (first | lia | omega)
theorem three_at {f : Nat → Str} {a b c : Tok} {i : Nat} (h : i < 3) : ∃ y, [Value.str (f 0) a, .str (f 1) b, .str (f 2) c][((i : Nat) : Int).toNat]? = some (.str (f i) y) := by
  rcases i with _ | _ | _ | i
  · exact ⟨a, rfl⟩
  · exact ⟨b, rfl⟩
  · exact ⟨c, rfl⟩
  · (first | lia | omega)
theorem three_of {ys : List Value} {f : Nat → Str} (hl : ys.length = 3) (h : ∀ i y, ys[i]? = some y → ∃ t, y = Value.str (f i) t) : ∃ a b c, ys = [.str (f 0) a, .str (f 1) b, .str (f 2) c] := by
  rcases ys with _ | ⟨y0, _ | ⟨y1, _ | ⟨y2, _ | ⟨y3, ys⟩⟩⟩⟩
  · simp at hl
  · simp at hl
  · simp at hl
  · obtain ⟨a, rfl⟩ := h 0 y0 rfl
    obtain ⟨b, rfl⟩ := h 1 y1 rfl
    obtain ⟨c, rfl⟩ := h 2 y2 rfl
    exact ⟨a, b, c, rfl⟩
  · simp at hl
set_option maxHeartbeats 16000000 in
theorem law_2 (w : World) (x0 x1 x2 x3 : Int) (hx0 : 0 ≤ x0) (hx1 : 0 ≤ x1) (hx2 : 0 ≤ x2) (hx3 : 0 ≤ x3) (U V : Nat) (hUV : (U, V) ∈ pairs6) (ri fa : Int) (hri : ri = 1 ∨ ri = 2) (hfa : fa = 1 ∨ fa = 2)
    (dp un : Nat) (gd : Option (List Code)) (fn : Addr) (ccd : Value) (outer : List Env) (A₀ : Around) (base h₀ h : Heap) (L D lf : Addr) (m : FMap) (o1 o2 o3 o4 o5 o6 objf : Obj) (t0 t1 t2 t3 tu tv tr tf : Tok) (cD k : Nat)
    (s : Shared) (Q : Flow → Shared → Prop) (E : Value → Shared → Prop) (mean : ExcName → Option Value) (mg mb : FMap)
    (B : Below A₀ base outer h₀) (F : Fr h₀ L h m) (X : (KK w.params).In h₀) (T : Top qv (looseW qv loose0) mean mg mb h₀)
    (N : News h₀ L h [(lf, objf), (D, listOf #[.int x0 t0, .int x1 t1, .int x2 t2, .int x3 t3] cD), (L + 1 + 1 + 1 + 1 + 1 + 1, o6), (L + 1 + 1 + 1 + 1 + 1, o5), (L + 1 + 1 + 1 + 1, o4), (L + 1 + 1 + 1, o3), (L + 1 + 1, o2), (L + 1, o1)])
    (d1 : o1.data = .cell (some (.ref D))) (d2 : o2.data = .cell (some (.str ⟨#[U]⟩ tu))) (d3 : o3.data = .cell (some (.str ⟨#[V]⟩ tv))) (d4 : o4.data = .cell (some (.int ri tr))) (d5 : o5.data = .cell (some (.int fa tf))) (d6 : o6.data = .cell none)
    (hD : @LT.lt Nat _ (L + 1 + 1 + 1 + 1 + 1 + 1) D) (hl : @LT.lt Nat _ D lf) (hd : dp + 40 < recursionLimit) (hu : un + 800 < cLine) (hu0 : @Ne Nat tu 0) (hv0 : @Ne Nat tv 0) (huk : @LT.lt Nat _ tu k) (hvk : @LT.lt Nat _ tv k)
    (hQ : ∀ (h' : Heap) (tk : Tok) (m' : FMap), Fr h₀ L h' m' → Q (.ret (.bool true)) ⟨h', s.gens, s.drawn, tk, s.os⟩)
    (hE : PassesOwn (model r0.prog w) (ktrTop dp un gd (Str.ofString "law") d26.scope L fn ccd (cellsFrom (L + 1) d26.scope.names []) outer) (envOfC (Str.ofString "law") d26.scope L fn ccd) E) :
    wpAny (model r0.prog w) (ktrTop dp un gd (Str.ofString "law") d26.scope L fn ccd (cellsFrom (L + 1) d26.scope.names []) outer) (execs (d26.body.drop 6) (envOfC (Str.ofString "law") d26.scope L fn ccd)) Q E ⟨h, s.gens, s.drawn, k, s.os⟩ := by
  revert X
  k_fill
  intro X
  delta d26
  dsimp only [List.drop]
  refine wpAny_execs_cons ?_; with_reducible refine any_toks ?_
  (repeat' ( (fail_if_success (with_reducible show wpAny _ _ (eval (Expr.ListComp _ _ _ _) _) _ _ _)); (first | ((refine fun (qhz : Nat.le _ _) => ?_); (try simp only [Nat.le_eq] at qhz)) | ((with_reducible show wpAny _ _ (binaryOp Operator.Mult (Value.str _ _) (Value.int _ _)) _ _ _); (k_dflt (refine SB.mul (mulOk_of 3 6 (by first | exact up3 _ | exact one3 _) (by assumption) (by (first | lia | omega)) (by decide) (by decide)) ?_; intro _ _))) | ((with_reducible show wpAny _ _ (binaryOp Operator.Add (Value.str _ _) (Value.str _ _)) _ _ _); ((refine SBL.add (hsz := ?hsz) ?_); (case hsz => exact add_fit (by first | exact up3 _ | exact one3 _) (by first | exact up3 _ | exact one3 _) (by assumption)); intro _ _ _)) | ((with_reducible show wpAny _ _ (call (Value.builtin "str.upper") _) _ _ _); (k_here; (try dsimp only); k_dflt (refine SCL.upper up_fit ?_; intro _))) | ((with_reducible show wpAny _ _ (call (Value.builtin "len") _) _ _ _); (k_dflt (refine P.len_str (wordN_fit _ _ _) ?_))) | ((with_reducible show wpAny _ _ (call (Value.ref 165) _) _ _ _); (k_here; (with_reducible show wpAny _ _ (call (Value.ref 165) _) _ _ _); refine' useV (typed_okW _ _ _ _ _ (by first | assumption | apply_assumption) (by assumption)) ?kB ?kF ?kX ?kN ?kT ?kk ?kd ?ku ?_; (((case kB => k_asm); (case kF => k_asm); (case kX => k_asm); (case kN => k_asm); (case kT => k_asm); (case kk => first | assumption | exact rfl); (case kd => first | (first | lia | omega) | ((try simp only [depth_deeper]); (first | lia | omega)) | ktr_room); (case ku => first | (first | lia | omega) | ((try simp only [units_deeper]); (first | lia | omega)) | ktr_units))); ((intro qh' qtk' qt' qF' qN')))) | ((with_reducible show wpAny _ _ (call (Value.ref 160) _) _ _ _); (k_here; (with_reducible show wpAny _ _ (call (Value.ref 160) _) _ _ _); refine' useV (meant_okW _ _ _ _ _ _ _ (by assumption)) ?kB ?kF ?kX ?kN ?kT ?kk ?kd ?ku ?_; (((case kB => k_asm); (case kF => k_asm); (case kX => k_asm); (case kN => k_asm); (case kT => k_asm); (case kk => first | assumption | exact rfl); (case kd => first | (first | lia | omega) | ((try simp only [depth_deeper]); (first | lia | omega)) | ktr_room); (case ku => first | (first | lia | omega) | ((try simp only [units_deeper]); (first | lia | omega)) | ktr_units))); ((intro qh' qtk' qt' qF' qN')))) | (k_unfold; (try dsimp only)) | (k_end; wrow_close) | walk1 | (dsimp only; walk1) | (leave1; walk_say "STEP leave1"; try dsimp only) | fail "no step")))
  refine' ListComp_T (fun i y => ∃ t, y = .str ⟨(wordN (Int.fmod ([x0, x1, x2, x3].getD i 0) 5) U V).toArray⟩ t) ?hF ?hclos ?hcell ?hkind ?hnames ?hx ?_ ?hs
  (((case hclos => with_unfolding_all rfl); (case hcell => decide); (case hkind => rfl); (case hnames => decide); (case hx => decide); (case hF => k_asm); (case hs => intro _; rfl)))
  (repeat' ( (fail_if_success (with_reducible show Exists _)); (first | ((with_reducible show wpAny _ _ (binaryOp Operator.Mult (Value.str _ _) (Value.int _ _)) _ _ _); (k_dflt (refine SB.mul (mulOk_of 3 6 (by first | exact up3 _ | exact one3 _) (by assumption) (by (first | lia | omega)) (by decide) (by decide)) ?_; intro _ _))) | ((with_reducible show wpAny _ _ (binaryOp Operator.Add (Value.str _ _) (Value.str _ _)) _ _ _); ((refine SBL.add (hsz := ?hsz) ?_); (case hsz => exact add_fit (by first | exact up3 _ | exact one3 _) (by first | exact up3 _ | exact one3 _) (by assumption)); intro _ _ _)) | ((with_reducible show wpAny _ _ (call (Value.builtin "str.upper") _) _ _ _); (k_here; (try dsimp only); k_dflt (refine SCL.upper up_fit ?_; intro _))) | ((with_reducible show wpAny _ _ (call (Value.builtin "len") _) _ _ _); (k_dflt (refine P.len_str (wordN_fit _ _ _) ?_))) | ((with_reducible show wpAny _ _ (call (Value.ref 165) _) _ _ _); (k_here; (with_reducible show wpAny _ _ (call (Value.ref 165) _) _ _ _); refine' useV (typed_okW _ _ _ _ _ (by first | assumption | apply_assumption) (by assumption)) ?kB ?kF ?kX ?kN ?kT ?kk ?kd ?ku ?_; (((case kB => k_asm); (case kF => k_asm); (case kX => k_asm); (case kN => k_asm); (case kT => k_asm); (case kk => first | assumption | exact rfl); (case kd => first | (first | lia | omega) | ((try simp only [depth_deeper]); (first | lia | omega)) | ktr_room); (case ku => first | (first | lia | omega) | ((try simp only [units_deeper]); (first | lia | omega)) | ktr_units))); ((intro qh' qtk' qt' qF' qN')))) | ((with_reducible show wpAny _ _ (call (Value.ref 160) _) _ _ _); (k_here; (with_reducible show wpAny _ _ (call (Value.ref 160) _) _ _ _); refine' useV (meant_okW _ _ _ _ _ _ _ (by assumption)) ?kB ?kF ?kX ?kN ?kT ?kk ?kd ?ku ?_; (((case kB => k_asm); (case kF => k_asm); (case kX => k_asm); (case kN => k_asm); (case kT => k_asm); (case kk => first | assumption | exact rfl); (case kd => first | (first | lia | omega) | ((try simp only [depth_deeper]); (first | lia | omega)) | ktr_room); (case ku => first | (first | lia | omega) | ((try simp only [units_deeper]); (first | lia | omega)) | ktr_units))); ((intro qh' qtk' qt' qF' qN')))) | (k_unfold; (try dsimp only)) | (k_end; wrow_close) | walk1 | (dsimp only; walk1) | (leave1; walk_say "STEP leave1"; try dsimp only) | fail "no step")))
  refine ⟨_, [_, _, _], _, _, rfl, (by first | rfl | exact True.intro), by k_asm, by k_asm, by k_mem, Nat.le_of_ble_eq_true rfl, ?turn, ?fin⟩
  case turn =>
    intro i v I oI C oC D' m₂ h tk ys E' hi htk hC hk F N off ne
    obtain ⟨hi3, tv, rfl⟩ := three_int hi
    obtain ⟨ty, hy⟩ := four_at (a := x0) (b := x1) (c := x2) (d := x3) (t := t0) (u := t1) (v := t2) (x := t3) hi3
    have hxi : 0 ≤ [x0, x1, x2, x3].getD i 0 := by rcases i with _ | _ | _ | i <;> first | assumption | (first | lia | omega)
    simp only [LCg.Off3, and_true] at off
    (repeat' ( (fail_if_success (with_reducible show ElT _ _ _ _ _ _ _ _)); (first | ((with_reducible show wpAny _ _ (binaryOp Operator.Mult (Value.str _ _) (Value.int _ _)) _ _ _); (k_dflt (refine SB.mul (mulOk_of 3 6 (by first | exact up3 _ | exact one3 _) (by assumption) (by (first | lia | omega)) (by decide) (by decide)) ?_; intro _ _))) | ((with_reducible show wpAny _ _ (binaryOp Operator.Add (Value.str _ _) (Value.str _ _)) _ _ _); ((refine SBL.add (hsz := ?hsz) ?_); (case hsz => exact add_fit (by first | exact up3 _ | exact one3 _) (by first | exact up3 _ | exact one3 _) (by assumption)); intro _ _ _)) | ((with_reducible show wpAny _ _ (call (Value.builtin "str.upper") _) _ _ _); (k_here; (try dsimp only); k_dflt (refine SCL.upper up_fit ?_; intro _))) | ((with_reducible show wpAny _ _ (call (Value.builtin "len") _) _ _ _); (k_dflt (refine P.len_str (wordN_fit _ _ _) ?_))) | ((with_reducible show wpAny _ _ (call (Value.ref 165) _) _ _ _); (k_here; (with_reducible show wpAny _ _ (call (Value.ref 165) _) _ _ _); refine' useV (typed_okW _ _ _ _ _ (by first | assumption | apply_assumption) (by assumption)) ?kB ?kF ?kX ?kN ?kT ?kk ?kd ?ku ?_; (((case kB => k_asm); (case kF => k_asm); (case kX => k_asm); (case kN => k_asm); (case kT => k_asm); (case kk => first | assumption | exact rfl); (case kd => first | (first | lia | omega) | ((try simp only [depth_deeper]); (first | lia | omega)) | ktr_room); (case ku => first | (first | lia | omega) | ((try simp only [units_deeper]); (first | lia | omega)) | ktr_units))); ((intro qh' qtk' qt' qF' qN')))) | ((with_reducible show wpAny _ _ (call (Value.ref 160) _) _ _ _); (k_here; (with_reducible show wpAny _ _ (call (Value.ref 160) _) _ _ _); refine' useV (meant_okW _ _ _ _ _ _ _ (by assumption)) ?kB ?kF ?kX ?kN ?kT ?kk ?kd ?ku ?_; (((case kB => k_asm); (case kF => k_asm); (case kX => k_asm); (case kN => k_asm); (case kT => k_asm); (case kk => first | assumption | exact rfl); (case kd => first | (first | lia | omega) | ((try simp only [depth_deeper]); (first | lia | omega)) | ktr_room); (case ku => first | (first | lia | omega) | ((try simp only [units_deeper]); (first | lia | omega)) | ktr_units))); ((intro qh' qtk' qt' qF' qN')))) | (k_unfold; (try dsimp only)) | (k_end; wrow_close) | walk1 | (dsimp only; walk1) | (leave1; walk_say "STEP leave1"; try dsimp only) | fail "no step")))
    (show ElT _ _ _ _ _ _ _ _)
    exact ⟨_, _, rfl, by k_asm, by (first | k_asm | (refine' cb_drop ?zN ?zS; (case zN => assumption); (case zS => kcj_all))), _, rfl⟩
  case fin =>
    intro D' h tk ys htk hlen hR F N o1
    obtain ⟨w0, w1, w2, rfl⟩ := three_of (f := fun i => ⟨(wordN (Int.fmod ([x0, x1, x2, x3].getD i 0) 5) U V).toArray⟩) hlen hR
    (try simp only [LCg.Off1, and_true] at o1)
    (try dsimp only)
    (repeat' ( (fail_if_success (with_reducible show wpAny _ _ (execs _ _) _ _ _)); (first | ((refine fun (qhz : Nat.le _ _) => ?_); (try simp only [Nat.le_eq] at qhz)) | ((with_reducible show wpAny _ _ (binaryOp Operator.Mult (Value.str _ _) (Value.int _ _)) _ _ _); (k_dflt (refine SB.mul (mulOk_of 3 6 (by first | exact up3 _ | exact one3 _) (by assumption) (by (first | lia | omega)) (by decide) (by decide)) ?_; intro _ _))) | ((with_reducible show wpAny _ _ (binaryOp Operator.Add (Value.str _ _) (Value.str _ _)) _ _ _); ((refine SBL.add (hsz := ?hsz) ?_); (case hsz => exact add_fit (by first | exact up3 _ | exact one3 _) (by first | exact up3 _ | exact one3 _) (by assumption)); intro _ _ _)) | ((with_reducible show wpAny _ _ (call (Value.builtin "str.upper") _) _ _ _); (k_here; (try dsimp only); k_dflt (refine SCL.upper up_fit ?_; intro _))) | ((with_reducible show wpAny _ _ (call (Value.builtin "len") _) _ _ _); (k_dflt (refine P.len_str (wordN_fit _ _ _) ?_))) | ((with_reducible show wpAny _ _ (call (Value.ref 165) _) _ _ _); (k_here; (with_reducible show wpAny _ _ (call (Value.ref 165) _) _ _ _); refine' useV (typed_okW _ _ _ _ _ (by first | assumption | apply_assumption) (by assumption)) ?kB ?kF ?kX ?kN ?kT ?kk ?kd ?ku ?_; (((case kB => k_asm); (case kF => k_asm); (case kX => k_asm); (case kN => k_asm); (case kT => k_asm); (case kk => first | assumption | exact rfl); (case kd => first | (first | lia | omega) | ((try simp only [depth_deeper]); (first | lia | omega)) | ktr_room); (case ku => first | (first | lia | omega) | ((try simp only [units_deeper]); (first | lia | omega)) | ktr_units))); ((intro qh' qtk' qt' qF' qN')))) | ((with_reducible show wpAny _ _ (call (Value.ref 160) _) _ _ _); (k_here; (with_reducible show wpAny _ _ (call (Value.ref 160) _) _ _ _); refine' useV (meant_okW _ _ _ _ _ _ _ (by assumption)) ?kB ?kF ?kX ?kN ?kT ?kk ?kd ?ku ?_; (((case kB => k_asm); (case kF => k_asm); (case kX => k_asm); (case kN => k_asm); (case kT => k_asm); (case kk => first | assumption | exact rfl); (case kd => first | (first | lia | omega) | ((try simp only [depth_deeper]); (first | lia | omega)) | ktr_room); (case ku => first | (first | lia | omega) | ((try simp only [units_deeper]); (first | lia | omega)) | ktr_units))); ((intro qh' qtk' qt' qF' qN')))) | (k_unfold; (try dsimp only)) | (k_end; wrow_close) | walk1 | (dsimp only; walk1) | (leave1; walk_say "STEP leave1"; try dsimp only) | fail "no step")))
    (((try dsimp only); refine toks_ge ?_; intro qkt' qhkt'; (try dsimp only)))
    have hwd : ∀ i, WordOk (wordN (Int.fmod ([x0, x1, x2, x3].getD i 0) 5) U V) := fun i => wordN_ok _ (pair6_ok hUV).1 (pair6_ok hUV).2
    refine wpAny_execs_cons ?_; with_reducible refine any_toks ?_
    refine' Assign_ListComp_T (m := ?m) (fun i y => ∃ t, y = .str (typedS (wordN (Int.fmod ([x0, x1, x2, x3].getD i 0) 5) U V) ([x0, x1, x2, x3].getD i 0)) t) ?hF ?hsw ?hclos ?hcell ?hkind ?hnames ?hx ?hy ?hp ?_ ?hs
    case hF => k_asm
    case hsw => with_unfolding_all rfl
    case hy => rfl
    case hp => rfl
    case hclos => with_unfolding_all rfl
    case hcell => decide
    case hkind => rfl
    case hnames => decide
    case hx => decide
    case hs => intro _; rfl
    (repeat' ( (fail_if_success (with_reducible show Exists _)); (first | ((with_reducible show wpAny _ _ (binaryOp Operator.Mult (Value.str _ _) (Value.int _ _)) _ _ _); (k_dflt (refine SB.mul (mulOk_of 3 6 (by first | exact up3 _ | exact one3 _) (by assumption) (by (first | lia | omega)) (by decide) (by decide)) ?_; intro _ _))) | ((with_reducible show wpAny _ _ (binaryOp Operator.Add (Value.str _ _) (Value.str _ _)) _ _ _); ((refine SBL.add (hsz := ?hsz) ?_); (case hsz => exact add_fit (by first | exact up3 _ | exact one3 _) (by first | exact up3 _ | exact one3 _) (by assumption)); intro _ _ _)) | ((with_reducible show wpAny _ _ (call (Value.builtin "str.upper") _) _ _ _); (k_here; (try dsimp only); k_dflt (refine SCL.upper up_fit ?_; intro _))) | ((with_reducible show wpAny _ _ (call (Value.builtin "len") _) _ _ _); (k_dflt (refine P.len_str (wordN_fit _ _ _) ?_))) | ((with_reducible show wpAny _ _ (call (Value.ref 165) _) _ _ _); (k_here; (with_reducible show wpAny _ _ (call (Value.ref 165) _) _ _ _); refine' useV (typed_okW _ _ _ _ _ (by first | assumption | apply_assumption) (by assumption)) ?kB ?kF ?kX ?kN ?kT ?kk ?kd ?ku ?_; (((case kB => k_asm); (case kF => k_asm); (case kX => k_asm); (case kN => k_asm); (case kT => k_asm); (case kk => first | assumption | exact rfl); (case kd => first | (first | lia | omega) | ((try simp only [depth_deeper]); (first | lia | omega)) | ktr_room); (case ku => first | (first | lia | omega) | ((try simp only [units_deeper]); (first | lia | omega)) | ktr_units))); ((intro qh' qtk' qt' qF' qN')))) | ((with_reducible show wpAny _ _ (call (Value.ref 160) _) _ _ _); (k_here; (with_reducible show wpAny _ _ (call (Value.ref 160) _) _ _ _); refine' useV (meant_okW _ _ _ _ _ _ _ (by assumption)) ?kB ?kF ?kX ?kN ?kT ?kk ?kd ?ku ?_; (((case kB => k_asm); (case kF => k_asm); (case kX => k_asm); (case kN => k_asm); (case kT => k_asm); (case kk => first | assumption | exact rfl); (case kd => first | (first | lia | omega) | ((try simp only [depth_deeper]); (first | lia | omega)) | ktr_room); (case ku => first | (first | lia | omega) | ((try simp only [units_deeper]); (first | lia | omega)) | ktr_units))); ((intro qh' qtk' qt' qF' qN')))) | (k_unfold; (try dsimp only)) | (k_end; wrow_close) | walk1 | (dsimp only; walk1) | (leave1; walk_say "STEP leave1"; try dsimp only) | fail "no step")))
    refine ⟨_, [_, _, _], _, _, rfl, (by first | rfl | exact True.intro), by k_asm, by k_asm, by k_mem, Nat.le_of_ble_eq_true rfl, ?turn, ?fin⟩
    case turn =>
      intro i v I oI C oC D'' m₂ h tk ys E' hi htk hC hk F N off ne
      obtain ⟨hi3, tv, rfl⟩ := three_int hi
      obtain ⟨ty, hy⟩ := four_at (a := x0) (b := x1) (c := x2) (d := x3) (t := t0) (u := t1) (v := t2) (x := t3) hi3
      obtain ⟨tz, hz⟩ := three_at (f := fun i => ⟨(wordN (Int.fmod ([x0, x1, x2, x3].getD i 0) 5) U V).toArray⟩) (a := w0) (b := w1) (c := w2) hi3
      have hxi : 0 ≤ [x0, x1, x2, x3].getD i 0 := by rcases i with _ | _ | _ | i <;> first | assumption | (first | lia | omega)
      have hwi := hwd i
      simp only [LCg.Off3, and_true] at off
      (repeat' ( (fail_if_success (with_reducible show ElT _ _ _ _ _ _ _ _)); (first | ((with_reducible show wpAny _ _ (binaryOp Operator.Mult (Value.str _ _) (Value.int _ _)) _ _ _); (k_dflt (refine SB.mul (mulOk_of 3 6 (by first | exact up3 _ | exact one3 _) (by assumption) (by (first | lia | omega)) (by decide) (by decide)) ?_; intro _ _))) | ((with_reducible show wpAny _ _ (binaryOp Operator.Add (Value.str _ _) (Value.str _ _)) _ _ _); ((refine SBL.add (hsz := ?hsz) ?_); (case hsz => exact add_fit (by first | exact up3 _ | exact one3 _) (by first | exact up3 _ | exact one3 _) (by assumption)); intro _ _ _)) | ((with_reducible show wpAny _ _ (call (Value.builtin "str.upper") _) _ _ _); (k_here; (try dsimp only); k_dflt (refine SCL.upper up_fit ?_; intro _))) | ((with_reducible show wpAny _ _ (call (Value.builtin "len") _) _ _ _); (k_dflt (refine P.len_str (wordN_fit _ _ _) ?_))) | ((with_reducible show wpAny _ _ (call (Value.ref 165) _) _ _ _); (k_here; (with_reducible show wpAny _ _ (call (Value.ref 165) _) _ _ _); refine' useV (typed_okW _ _ _ _ _ (by first | assumption | apply_assumption) (by assumption)) ?kB ?kF ?kX ?kN ?kT ?kk ?kd ?ku ?_; (((case kB => k_asm); (case kF => k_asm); (case kX => k_asm); (case kN => k_asm); (case kT => k_asm); (case kk => first | assumption | exact rfl); (case kd => first | (first | lia | omega) | ((try simp only [depth_deeper]); (first | lia | omega)) | ktr_room); (case ku => first | (first | lia | omega) | ((try simp only [units_deeper]); (first | lia | omega)) | ktr_units))); ((intro qh' qtk' qt' qF' qN')))) | ((with_reducible show wpAny _ _ (call (Value.ref 160) _) _ _ _); (k_here; (with_reducible show wpAny _ _ (call (Value.ref 160) _) _ _ _); refine' useV (meant_okW _ _ _ _ _ _ _ (by assumption)) ?kB ?kF ?kX ?kN ?kT ?kk ?kd ?ku ?_; (((case kB => k_asm); (case kF => k_asm); (case kX => k_asm); (case kN => k_asm); (case kT => k_asm); (case kk => first | assumption | exact rfl); (case kd => first | (first | lia | omega) | ((try simp only [depth_deeper]); (first | lia | omega)) | ktr_room); (case ku => first | (first | lia | omega) | ((try simp only [units_deeper]); (first | lia | omega)) | ktr_units))); ((intro qh' qtk' qt' qF' qN')))) | (k_unfold; (try dsimp only)) | (k_end; wrow_close) | walk1 | (dsimp only; walk1) | (leave1; walk_say "STEP leave1"; try dsimp only) | fail "no step")))
      (show ElT _ _ _ _ _ _ _ _)
      exact ⟨_, _, rfl, by k_asm, by (first | k_asm | (refine' cb_drop ?zN ?zS; (case zN => assumption); (case zS => kcj_all))), _, rfl⟩
    case fin =>
      intro D'' h tk ys htk hlen hR F N o1
      obtain ⟨y0, y1, y2, rfl⟩ := three_of (f := fun i => typedS (wordN (Int.fmod ([x0, x1, x2, x3].getD i 0) 5) U V) ([x0, x1, x2, x3].getD i 0)) hlen hR
      (try simp only [LCg.Off1, and_true] at o1)
      (try dsimp only)
      (repeat' ( (fail_if_success (with_reducible show wpAny _ _ (execs _ _) _ _ _)); (first | ((refine fun (qhz : Nat.le _ _) => ?_); (try simp only [Nat.le_eq] at qhz)) | ((with_reducible show wpAny _ _ (binaryOp Operator.Mult (Value.str _ _) (Value.int _ _)) _ _ _); (k_dflt (refine SB.mul (mulOk_of 3 6 (by first | exact up3 _ | exact one3 _) (by assumption) (by (first | lia | omega)) (by decide) (by decide)) ?_; intro _ _))) | ((with_reducible show wpAny _ _ (binaryOp Operator.Add (Value.str _ _) (Value.str _ _)) _ _ _); ((refine SBL.add (hsz := ?hsz) ?_); (case hsz => exact add_fit (by first | exact up3 _ | exact one3 _) (by first | exact up3 _ | exact one3 _) (by assumption)); intro _ _ _)) | ((with_reducible show wpAny _ _ (call (Value.builtin "str.upper") _) _ _ _); (k_here; (try dsimp only); k_dflt (refine SCL.upper up_fit ?_; intro _))) | ((with_reducible show wpAny _ _ (call (Value.builtin "len") _) _ _ _); (k_dflt (refine P.len_str (wordN_fit _ _ _) ?_))) | ((with_reducible show wpAny _ _ (call (Value.ref 165) _) _ _ _); (k_here; (with_reducible show wpAny _ _ (call (Value.ref 165) _) _ _ _); refine' useV (typed_okW _ _ _ _ _ (by first | assumption | apply_assumption) (by assumption)) ?kB ?kF ?kX ?kN ?kT ?kk ?kd ?ku ?_; (((case kB => k_asm); (case kF => k_asm); (case kX => k_asm); (case kN => k_asm); (case kT => k_asm); (case kk => first | assumption | exact rfl); (case kd => first | (first | lia | omega) | ((try simp only [depth_deeper]); (first | lia | omega)) | ktr_room); (case ku => first | (first | lia | omega) | ((try simp only [units_deeper]); (first | lia | omega)) | ktr_units))); ((intro qh' qtk' qt' qF' qN')))) | ((with_reducible show wpAny _ _ (call (Value.ref 160) _) _ _ _); (k_here; (with_reducible show wpAny _ _ (call (Value.ref 160) _) _ _ _); refine' useV (meant_okW _ _ _ _ _ _ _ (by assumption)) ?kB ?kF ?kX ?kN ?kT ?kk ?kd ?ku ?_; (((case kB => k_asm); (case kF => k_asm); (case kX => k_asm); (case kN => k_asm); (case kT => k_asm); (case kk => first | assumption | exact rfl); (case kd => first | (first | lia | omega) | ((try simp only [depth_deeper]); (first | lia | omega)) | ktr_room); (case ku => first | (first | lia | omega) | ((try simp only [units_deeper]); (first | lia | omega)) | ktr_units))); ((intro qh' qtk' qt' qF' qN')))) | (k_unfold; (try dsimp only)) | (k_end; wrow_close) | walk1 | (dsimp only; walk1) | (leave1; walk_say "STEP leave1"; try dsimp only) | fail "no step")))
      (((try dsimp only); refine toks_ge ?_; intro qkt' qhkt'; (try dsimp only)))
      (((refine wpAny_execs_cons ?_; with_reducible refine any_toks ?_); (repeat' ( (fail_if_success (with_reducible show wpAny _ _ (execs _ _) _ _ _)); (first | ((refine fun (qhz : Nat.le _ _) => ?_); (try simp only [Nat.le_eq] at qhz)) | ((with_reducible show wpAny _ _ (binaryOp Operator.Mult (Value.str _ _) (Value.int _ _)) _ _ _); (k_dflt (refine SB.mul (mulOk_of 3 6 (by first | exact up3 _ | exact one3 _) (by assumption) (by (first | lia | omega)) (by decide) (by decide)) ?_; intro _ _))) | ((with_reducible show wpAny _ _ (binaryOp Operator.Add (Value.str _ _) (Value.str _ _)) _ _ _); ((refine SBL.add (hsz := ?hsz) ?_); (case hsz => exact add_fit (by first | exact up3 _ | exact one3 _) (by first | exact up3 _ | exact one3 _) (by assumption)); intro _ _ _)) | ((with_reducible show wpAny _ _ (call (Value.builtin "str.upper") _) _ _ _); (k_here; (try dsimp only); k_dflt (refine SCL.upper up_fit ?_; intro _))) | ((with_reducible show wpAny _ _ (call (Value.builtin "len") _) _ _ _); (k_dflt (refine P.len_str (wordN_fit _ _ _) ?_))) | ((with_reducible show wpAny _ _ (call (Value.ref 165) _) _ _ _); (k_here; (with_reducible show wpAny _ _ (call (Value.ref 165) _) _ _ _); refine' useV (typed_okW _ _ _ _ _ (by first | assumption | apply_assumption) (by assumption)) ?kB ?kF ?kX ?kN ?kT ?kk ?kd ?ku ?_; (((case kB => k_asm); (case kF => k_asm); (case kX => k_asm); (case kN => k_asm); (case kT => k_asm); (case kk => first | assumption | exact rfl); (case kd => first | (first | lia | omega) | ((try simp only [depth_deeper]); (first | lia | omega)) | ktr_room); (case ku => first | (first | lia | omega) | ((try simp only [units_deeper]); (first | lia | omega)) | ktr_units))); ((intro qh' qtk' qt' qF' qN')))) | ((with_reducible show wpAny _ _ (call (Value.ref 160) _) _ _ _); (k_here; (with_reducible show wpAny _ _ (call (Value.ref 160) _) _ _ _); refine' useV (meant_okW _ _ _ _ _ _ _ (by assumption)) ?kB ?kF ?kX ?kN ?kT ?kk ?kd ?ku ?_; (((case kB => k_asm); (case kF => k_asm); (case kX => k_asm); (case kN => k_asm); (case kT => k_asm); (case kk => first | assumption | exact rfl); (case kd => first | (first | lia | omega) | ((try simp only [depth_deeper]); (first | lia | omega)) | ktr_room); (case ku => first | (first | lia | omega) | ((try simp only [units_deeper]); (first | lia | omega)) | ktr_units))); ((intro qh' qtk' qt' qF' qN')))) | (k_unfold; (try dsimp only)) | (k_end; wrow_close) | walk1 | (dsimp only; walk1) | (leave1; walk_say "STEP leave1"; try dsimp only) | fail "no step")))))
      (((try dsimp only); refine toks_ge ?_; intro qkt' qhkt'; (try dsimp only)))
      have hs0 := wordN_short (Int.fmod ([x0, x1, x2, x3].getD 0 0) 5) U V
      have hs1 := wordN_short (Int.fmod ([x0, x1, x2, x3].getD 1 0) 5) U V
      have hs2 := wordN_short (Int.fmod ([x0, x1, x2, x3].getD 2 0) 5) U V
      refine wpAny_execs_cons ?_; with_reducible refine any_toks ?_
      (rename Fr _ _ _ _ => kF); (rename News _ _ _ _ => kN)
      refine cut_set (Str.ofString "ruler") (fun t => .str (rulerS U V ri fa ((⟨(wordN (Int.fmod ([x0, x1, x2, x3].getD 0 0) 5) U V).toArray⟩ : Str).length + (⟨(wordN (Int.fmod ([x0, x1, x2, x3].getD 1 0) 5) U V).toArray⟩ : Str).length + (⟨(wordN (Int.fmod ([x0, x1, x2, x3].getD 2 0) 5) U V).toArray⟩ : Str).length)) t) kF kN ?r1 ?r2
      case r1 =>
        have hn6 : ((⟨(wordN (Int.fmod ([x0, x1, x2, x3].getD 0 0) 5) U V).toArray⟩ : Str).length + (⟨(wordN (Int.fmod ([x0, x1, x2, x3].getD 1 0) 5) U V).toArray⟩ : Str).length + (⟨(wordN (Int.fmod ([x0, x1, x2, x3].getD 2 0) 5) U V).toArray⟩ : Str).length : Int) ≤ ((6 : Nat) : Int) := by (first | lia | omega)
        rcases hri with rfl | rfl
        · (repeat' ( (fail_if_success (with_reducible show wpAny _ _ (execs _ _) _ _ _)); (first | ((refine fun (qhz : Nat.le _ _) => ?_); (try simp only [Nat.le_eq] at qhz)) | ((with_reducible show wpAny _ _ (binaryOp Operator.Mult (Value.str _ _) (Value.int _ _)) _ _ _); (k_dflt (refine SB.mul (mulOk_of 3 6 (by first | exact up3 _ | exact one3 _) (by assumption) (by (first | lia | omega)) (by decide) (by decide)) ?_; intro _ _))) | ((with_reducible show wpAny _ _ (binaryOp Operator.Add (Value.str _ _) (Value.str _ _)) _ _ _); ((refine SBL.add (hsz := ?hsz) ?_); (case hsz => exact add_fit (by first | exact up3 _ | exact one3 _) (by first | exact up3 _ | exact one3 _) (by assumption)); intro _ _ _)) | ((with_reducible show wpAny _ _ (call (Value.builtin "str.upper") _) _ _ _); (k_here; (try dsimp only); k_dflt (refine SCL.upper up_fit ?_; intro _))) | ((with_reducible show wpAny _ _ (call (Value.builtin "len") _) _ _ _); (k_dflt (refine P.len_str (wordN_fit _ _ _) ?_))) | ((with_reducible show wpAny _ _ (call (Value.ref 165) _) _ _ _); (k_here; (with_reducible show wpAny _ _ (call (Value.ref 165) _) _ _ _); refine' useV (typed_okW _ _ _ _ _ (by first | assumption | apply_assumption) (by assumption)) ?kB ?kF ?kX ?kN ?kT ?kk ?kd ?ku ?_; (((case kB => k_asm); (case kF => k_asm); (case kX => k_asm); (case kN => k_asm); (case kT => k_asm); (case kk => first | assumption | exact rfl); (case kd => first | (first | lia | omega) | ((try simp only [depth_deeper]); (first | lia | omega)) | ktr_room); (case ku => first | (first | lia | omega) | ((try simp only [units_deeper]); (first | lia | omega)) | ktr_units))); ((intro qh' qtk' qt' qF' qN')))) | ((with_reducible show wpAny _ _ (call (Value.ref 160) _) _ _ _); (k_here; (with_reducible show wpAny _ _ (call (Value.ref 160) _) _ _ _); refine' useV (meant_okW _ _ _ _ _ _ _ (by assumption)) ?kB ?kF ?kX ?kN ?kT ?kk ?kd ?ku ?_; (((case kB => k_asm); (case kF => k_asm); (case kX => k_asm); (case kN => k_asm); (case kT => k_asm); (case kk => first | assumption | exact rfl); (case kd => first | (first | lia | omega) | ((try simp only [depth_deeper]); (first | lia | omega)) | ktr_room); (case ku => first | (first | lia | omega) | ((try simp only [units_deeper]); (first | lia | omega)) | ktr_units))); ((intro qh' qtk' qt' qF' qN')))) | (k_unfold; (try dsimp only)) | (k_end; wrow_close) | walk1 | (dsimp only; walk1) | (leave1; walk_say "STEP leave1"; try dsimp only) | fail "no step")))
          · ((show WDone _ _ _ _ _ _; refine' ⟨_, _, _, rfl, ?zf, ?zn, ?zj⟩; (case zf => k_asm); (case zn => (first | k_asm | (refine' cb_drop ?zN ?zS; (case zN => assumption); (case zS => kcj_all))))))
            case zj => exact set_doneA (by rw [rulerS, if_pos rfl, if_pos (by assumption)])
          · ((show WDone _ _ _ _ _ _; refine' ⟨_, _, _, rfl, ?zf, ?zn, ?zj⟩; (case zf => k_asm); (case zn => (first | k_asm | (refine' cb_drop ?zN ?zS; (case zN => assumption); (case zS => kcj_all))))))
            case zj => exact set_doneA (by rw [rulerS, if_pos rfl, if_neg (by assumption)])
        · (repeat' ( (fail_if_success (with_reducible show wpAny _ _ (execs _ _) _ _ _)); (first | ((refine fun (qhz : Nat.le _ _) => ?_); (try simp only [Nat.le_eq] at qhz)) | ((with_reducible show wpAny _ _ (binaryOp Operator.Mult (Value.str _ _) (Value.int _ _)) _ _ _); (k_dflt (refine SB.mul (mulOk_of 3 6 (by first | exact up3 _ | exact one3 _) (by assumption) (by (first | lia | omega)) (by decide) (by decide)) ?_; intro _ _))) | ((with_reducible show wpAny _ _ (binaryOp Operator.Add (Value.str _ _) (Value.str _ _)) _ _ _); ((refine SBL.add (hsz := ?hsz) ?_); (case hsz => exact add_fit (by first | exact up3 _ | exact one3 _) (by first | exact up3 _ | exact one3 _) (by assumption)); intro _ _ _)) | ((with_reducible show wpAny _ _ (call (Value.builtin "str.upper") _) _ _ _); (k_here; (try dsimp only); k_dflt (refine SCL.upper up_fit ?_; intro _))) | ((with_reducible show wpAny _ _ (call (Value.builtin "len") _) _ _ _); (k_dflt (refine P.len_str (wordN_fit _ _ _) ?_))) | ((with_reducible show wpAny _ _ (call (Value.ref 165) _) _ _ _); (k_here; (with_reducible show wpAny _ _ (call (Value.ref 165) _) _ _ _); refine' useV (typed_okW _ _ _ _ _ (by first | assumption | apply_assumption) (by assumption)) ?kB ?kF ?kX ?kN ?kT ?kk ?kd ?ku ?_; (((case kB => k_asm); (case kF => k_asm); (case kX => k_asm); (case kN => k_asm); (case kT => k_asm); (case kk => first | assumption | exact rfl); (case kd => first | (first | lia | omega) | ((try simp only [depth_deeper]); (first | lia | omega)) | ktr_room); (case ku => first | (first | lia | omega) | ((try simp only [units_deeper]); (first | lia | omega)) | ktr_units))); ((intro qh' qtk' qt' qF' qN')))) | ((with_reducible show wpAny _ _ (call (Value.ref 160) _) _ _ _); (k_here; (with_reducible show wpAny _ _ (call (Value.ref 160) _) _ _ _); refine' useV (meant_okW _ _ _ _ _ _ _ (by assumption)) ?kB ?kF ?kX ?kN ?kT ?kk ?kd ?ku ?_; (((case kB => k_asm); (case kF => k_asm); (case kX => k_asm); (case kN => k_asm); (case kT => k_asm); (case kk => first | assumption | exact rfl); (case kd => first | (first | lia | omega) | ((try simp only [depth_deeper]); (first | lia | omega)) | ktr_room); (case ku => first | (first | lia | omega) | ((try simp only [units_deeper]); (first | lia | omega)) | ktr_units))); ((intro qh' qtk' qt' qF' qN')))) | (k_unfold; (try dsimp only)) | (k_end; wrow_close) | walk1 | (dsimp only; walk1) | (leave1; walk_say "STEP leave1"; try dsimp only) | fail "no step")))
          · ((show WDone _ _ _ _ _ _; refine' ⟨_, _, _, rfl, ?zf, ?zn, ?zj⟩; (case zf => k_asm); (case zn => (first | k_asm | (refine' cb_drop ?zN ?zS; (case zN => assumption); (case zS => kcj_all))))))
            case zj => exact set_doneA (by rw [rulerS, if_neg (by decide), if_pos (by assumption)])
          · ((show WDone _ _ _ _ _ _; refine' ⟨_, _, _, rfl, ?zf, ?zn, ?zj⟩; (case zf => k_asm); (case zn => (first | k_asm | (refine' cb_drop ?zN ?zS; (case zN => assumption); (case zS => kcj_all))))))
            case zj => exact set_doneA (by rw [rulerS, if_neg (by decide), if_neg (by assumption)])
      case r2 =>
        clear kF kN
        intro tR hR kR FR NR
        (try dsimp only)
        intro hleR
        (((try dsimp only); refine toks_ge ?_; intro qkt' qhkt'; (try dsimp only)))
        obtain ⟨H, LF⟩ := law_LF hUV hri hfa (fun i => [x0, x1, x2, x3].getD i 0)
        replace FR : Fr h₀ L hR (fun z => if z = Str.ofString "ruler" then some (Value.str (rulerS U V ri fa (nW (fun i => (⟨(wordN (Int.fmod ([x0, x1, x2, x3].getD i 0) 5) U V).toArray⟩ : Str)))) tR) else if z = Str.ofString "size" then some (Value.int (nW (fun i => (⟨(wordN (Int.fmod ([x0, x1, x2, x3].getD i 0) 5) U V).toArray⟩ : Str))) _) else if z = Str.ofString "typed" then some (Value.ref _) else m z) := FR
        have NR2 : News h₀ L hR [(D'', LCg.lst [.str ((fun i => typedS (wordN (Int.fmod ([x0, x1, x2, x3].getD i 0) 5) U V) ([x0, x1, x2, x3].getD i 0)) 0) y0, .str ((fun i => typedS (wordN (Int.fmod ([x0, x1, x2, x3].getD i 0) 5) U V) ([x0, x1, x2, x3].getD i 0)) 1) y1, .str ((fun i => typedS (wordN (Int.fmod ([x0, x1, x2, x3].getD i 0) 5) U V) ([x0, x1, x2, x3].getD i 0)) 2) y2]), (D', LCg.lst [.str ((fun i => (⟨(wordN (Int.fmod ([x0, x1, x2, x3].getD i 0) 5) U V).toArray⟩ : Str)) 0) w0, .str ((fun i => (⟨(wordN (Int.fmod ([x0, x1, x2, x3].getD i 0) 5) U V).toArray⟩ : Str)) 1) w1, .str ((fun i => (⟨(wordN (Int.fmod ([x0, x1, x2, x3].getD i 0) 5) U V).toArray⟩ : Str)) 2) w2]), (D, listOf #[.int x0 t0, .int x1 t1, .int x2 t2, .int x3 t3] cD), (L + 1 + 1 + 1 + 1 + 1 + 1, _), (L + 1 + 1 + 1 + 1 + 1, o5), (L + 1 + 1 + 1 + 1, o4), (L + 1 + 1 + 1, o3), (L + 1 + 1, o2), (L + 1, _)] := newsSub NR (List.forall_mem_cons.mpr ⟨.head _, List.forall_mem_cons.mpr ⟨.tail _ (.tail _ (.head _)), List.forall_mem_cons.mpr ⟨.tail _ (.tail _ (.tail _ (.tail _ (.tail _ (.head _))))), List.forall_mem_cons.mpr ⟨.tail _ (.tail _ (.tail _ (.tail _ (.tail _ (.tail _ (.head _)))))), List.forall_mem_cons.mpr ⟨.tail _ (.tail _ (.tail _ (.tail _ (.tail _ (.tail _ (.tail _ (.head _))))))), List.forall_mem_cons.mpr ⟨.tail _ (.tail _ (.tail _ (.tail _ (.tail _ (.tail _ (.tail _ (.tail _ (.head _)))))))), List.forall_mem_cons.mpr ⟨.tail _ (.tail _ (.tail _ (.tail _ (.tail _ (.tail _ (.tail _ (.tail _ (.tail _ (.head _))))))))), List.forall_mem_cons.mpr ⟨.tail _ (.tail _ (.tail _ (.tail _ (.tail _ (.tail _ (.tail _ (.tail _ (.tail _ (.tail _ (.head _)))))))))), List.forall_mem_cons.mpr ⟨.tail _ (.tail _ (.tail _ (.tail _ (.tail _ (.tail _ (.tail _ (.tail _ (.tail _ (.tail _ (.tail _ (.head _))))))))))), List.forall_mem_nil _⟩⟩⟩⟩⟩⟩⟩⟩⟩)
        show wpAny (model r0.prog w) (ktrTop dp un gd (Str.ofString "law") d26.scope L fn ccd (cellsFrom (L + 1) d26.scope.names []) outer) (execs (d26.body.drop 10) (envOfC (Str.ofString "law") d26.scope L fn ccd)) _ _ _
        with_reducible refine (law_8 w x0 x1 x2 x3 hx3 U V ri fa hri hfa (fun i => (⟨(wordN (Int.fmod ([x0, x1, x2, x3].getD i 0) 5) U V).toArray⟩ : Str)) (fun i => typedS (wordN (Int.fmod ([x0, x1, x2, x3].getD i 0) 5) U V) ([x0, x1, x2, x3].getD i 0)) _ LF dp un gd fn ccd outer A₀ base h₀ _ L D D' D'' _ _ _ _ _ _ _ t0 t1 t2 t3 tu tv tr tf w0 w1 w2 y0 y1 y2 _ _ cD _ _ _ _ mean mg mb B X T d1 d2 d3 d4 d5 ?d6 hd hu hu0 hv0 (by (first | lia | omega)) (by (first | lia | omega)) hQ hE FR NR2)
        assumption

end Mine
end

section
open PySem PySem.W PyProof.Rows
set_option maxRecDepth 100000
namespace Mine
-- a local whose value a fact tells

local macro_rules | `(tactic| walk_at "subscriptTail") => `(tactic| (k_here; (with_reducible rename News _ _ _ _ => kN); k_dflt (refine item_fam kN (by first | assumption | (first | lia | omega)) (by first | assumption | (first | lia | omega)) ?_; intro _)))
local macro_rules | `(tactic| walk_at "subscriptTail") => `(tactic| (k_here; (with_reducible show wpAny _ _ (subscriptTail _ _ (Value.ref _) (Value.int _ _)) _ _ _); (with_reducible rename News _ _ _ _ => kN); k_dflt (refine item_mem (l := [_, _, _, _]) kN (by k_mem) (by decide) (by decide) (by exact rfl) ?_)))
local macro_rules | `(tactic| walk_at "subscriptTail Name Constant ref int") => `(tactic| (k_here; (with_reducible rename News _ _ _ _ => kN); k_dflt (refine item_mem (l := [_, _, _, _]) kN (by k_mem) (by decide) (by decide) (by exact rfl) ?_)))
local macro_rules | `(tactic| walk_at "subscriptTail Name str int") => `(tactic| (k_here; k_dflt (refine item_litT (by first | assumption | (first | lia | omega)) (by (first | lia | omega)) (by assumption) ?_)))
local macro_rules | `(tactic| walk_at "subscriptTail") => `(tactic| (k_here; (with_reducible show wpAny _ _ (subscriptTail _ _ (Value.str _ _) (Value.int _ _)) _ _ _); k_dflt (refine item_litT (by first | assumption | (first | lia | omega)) (by (first | lia | omega)) (by assumption) ?_)))
-- no twin of the program is wanted here
local macro_rules | `(tactic| k_qdec) => `(tactic| decide +kernel)
set_option maxHeartbeats 16000000 in
theorem walk0 : Walk0 := by
  w_on
  delta Walk0 d26
  w_strict k_go0
  all_goals (try k_fold)
  dsimp only
  refine wpAny_execs_cons ?_; with_reducible refine any_toks ?_
  (repeat' ( (fail_if_success (with_reducible show wpAny _ _ (call (Value.ref _) _) _ _ _)); (first | (k_unfold; (try dsimp only)) | (k_end; wrow_close) | walk1 | (dsimp only; walk1) | (leave1; walk_say "STEP leave1"; try dsimp only) | fail "no step")))
  refine' draws_ok _ _ _ _ _ _ _ _ _ _ _ _ _ _ _ _ _ _ _ _ _ _ _ _ _ (by assumption) (by assumption) (by (first | lia | omega)) ?kB ?kF ?kX ?kN ?kT ?kk ?kd ?ku ?_
  (((case kB => k_asm); (case kF => k_asm); (case kX => k_asm); (case kN => k_asm); (case kT => k_asm); (case kk => first | assumption | exact rfl); (case kd => first | (first | lia | omega) | ((try simp only [depth_deeper]); (first | lia | omega)) | ktr_room); (case ku => first | (first | lia | omega) | ((try simp only [units_deeper]); (first | lia | omega)) | ktr_units)))
  intro D us cD ks hD tkD hI4 h4 hlt FD ND
  k_lt hlt
  obtain ⟨x0, x1, x2, x3, t0, t1, t2, t3, rfl, rfl⟩ := four_ints hI4 h4.1
  have hx0 : 0 ≤ x0 := (h4.2 x0 (by simp)).1
  have hx1 : 0 ≤ x1 := (h4.2 x1 (by simp)).1
  have hx2 : 0 ≤ x2 := (h4.2 x2 (by simp)).1
  have hx3 : 0 ≤ x3 := (h4.2 x3 (by simp)).1
  have hi3 : 0 ≤ Int.fmod x3 3 ∧ Int.fmod x3 3 < 3 := fmB _ 3 (by decide)
  have hi2 : 0 ≤ Int.fmod (Int.fdiv x3 3) 2 ∧ Int.fmod (Int.fdiv x3 3) 2 < 2 := fmB _ 2 (by decide)
  have hri : 0 ≤ Int.fmod (Int.fdiv x3 6) 2 ∧ Int.fmod (Int.fdiv x3 6) 2 < 2 := fmB _ 2 (by decide)
  have hfa : 0 ≤ Int.fmod (Int.fdiv x3 12) 2 ∧ Int.fmod (Int.fdiv x3 12) 2 < 2 := fmB _ 2 (by decide)
  obtain ⟨U, V, hU, hV, hUV⟩ := fam_pick (Int.fmod x3 3) (Int.fmod (Int.fdiv x3 3) 2) (by (first | lia | omega))
  clear hI4 h4
  show wpAny _ _ _ _ _ _
  (repeat' (
  (fail_if_success (with_reducible show wpAny _ _ (execs _ _) _ _ _));
  (first | ((refine fun (hz : Nat.le _ _) => ?_); (try simp only [Nat.le_eq] at hz)) | (k_unfold; (try dsimp only)) | (k_end; wrow_close) | walk1 | (dsimp only; walk1) | (leave1; walk_say "STEP leave1"; try dsimp only) | fail "no step")))
  (((try dsimp only); refine toks_ge ?_; intro qkt' qhkt'; (try dsimp only)))
  (((refine wpAny_execs_cons ?_); (with_reducible refine any_toks ?_); (repeat' ( (fail_if_success (with_reducible show wpAny _ _ (execs _ _) _ _ _)); (first | ((refine fun (qhz : Nat.le _ _) => ?_); (try simp only [Nat.le_eq] at qhz)) | (k_unfold; (try dsimp only)) | (k_end; wrow_close) | walk1 | (dsimp only; walk1) | (leave1; walk_say "STEP leave1"; try dsimp only) | fail "no step")))))
  (((try dsimp only); refine toks_ge ?_; intro qkt' qhkt'; (try dsimp only)))
  (((refine wpAny_execs_cons ?_); (with_reducible refine any_toks ?_); (repeat' ( (fail_if_success (with_reducible show wpAny _ _ (execs _ _) _ _ _)); (first | ((refine fun (qhz : Nat.le _ _) => ?_); (try simp only [Nat.le_eq] at qhz)) | (k_unfold; (try dsimp only)) | (k_end; wrow_close) | walk1 | (dsimp only; walk1) | (leave1; walk_say "STEP leave1"; try dsimp only) | fail "no step")))))
  (((try dsimp only); refine toks_ge ?_; intro qkt' qhkt'; (try dsimp only)))
  (((refine wpAny_execs_cons ?_); (with_reducible refine any_toks ?_); (repeat' ( (fail_if_success (with_reducible show wpAny _ _ (execs _ _) _ _ _)); (first | ((refine fun (qhz : Nat.le _ _) => ?_); (try simp only [Nat.le_eq] at qhz)) | (k_unfold; (try dsimp only)) | (k_end; wrow_close) | walk1 | (dsimp only; walk1) | (leave1; walk_say "STEP leave1"; try dsimp only) | fail "no step")))))
  (((try dsimp only); refine toks_ge ?_; intro qkt' qhkt'; (try dsimp only)))
  (((refine wpAny_execs_cons ?_); (with_reducible refine any_toks ?_); (repeat' ( (fail_if_success (with_reducible show wpAny _ _ (execs _ _) _ _ _)); (first | ((refine fun (qhz : Nat.le _ _) => ?_); (try simp only [Nat.le_eq] at qhz)) | (k_unfold; (try dsimp only)) | (k_end; wrow_close) | walk1 | (dsimp only; walk1) | (leave1; walk_say "STEP leave1"; try dsimp only) | fail "no step")))))
  (((try dsimp only); refine toks_ge ?_; intro qkt' qhkt'; (try dsimp only)))
  (((refine wpAny_execs_cons ?_); (with_reducible refine any_toks ?_); (repeat' ( (fail_if_success (with_reducible show wpAny _ _ (execs _ _) _ _ _)); (first | ((refine fun (qhz : Nat.le _ _) => ?_); (try simp only [Nat.le_eq] at qhz)) | (k_unfold; (try dsimp only)) | (k_end; wrow_close) | walk1 | (dsimp only; walk1) | (leave1; walk_say "STEP leave1"; try dsimp only) | fail "no step")))))
  (((try dsimp only); refine toks_ge ?_; intro qkt' qhkt'; (try dsimp only)))
  show wpAny (model r0.prog _) (ktrTop _ _ _ (Str.ofString "law") d26.scope _ _ _ (cellsFrom (_ + 1) d26.scope.names []) _) (execs (d26.body.drop 6) (envOfC (Str.ofString "law") d26.scope _ _ _)) _ _ _
  with_reducible refine' (law_2 _ x0 x1 x2 x3 hx0 hx1 hx2 hx3 U V hUV _ _ ?hri ?hfa _ _ _ _ _ _ _ _ _ _ _ _ _ _ _ _ _ _ _ _ _ _ _ _ _ _ _ _ _ _ _ _ _ _ _ _ _ ?hB ?hF ?hX ?hT ?hN ?hd1 ?hd2 ?hd3 ?hd4 ?hd5 ?hd6 ?hDD ?hll ?hdp ?hun ?hu0 ?hv0 ?huk ?hvk ?hQ ?hE)
  case hB => assumption
  case hF => assumption
  case hX => assumption
  case hT => assumption
  case hN => assumption
  case hd1 => assumption
  case hd2 => assumption
  case hd3 => assumption
  case hd4 => assumption
  case hd5 => assumption
  case hd6 => first | assumption | (refine Eq.trans (by assumption) ?_; rfl)
  case hri => (first | lia | omega)
  case hfa => (first | lia | omega)
  case hDD => (first | lia | omega)
  case hll => (first | lia | omega)
  case hdp => decide +kernel
  case hun => decide +kernel
  case hu0 => (try dsimp only); (first | lia | omega)
  case hv0 => (try dsimp only); (first | lia | omega)
  case huk => (try dsimp only); (first | lia | omega)
  case hvk => (try dsimp only); (first | lia | omega)
  case hE => passes_own
  case hQ =>
    intro h' tk m' F
    show GoodW _ _ _ _ _ (.ok (.ret (.bool _))) _
    refine goodW_bool F (by assumption) (raisesW_false ?_) ?_
    · wrow_none_raised
    · wrow_post

end Mine
end

end

end

theorem PySem.Challenge.cw_tl0036_01_holds : PySem.Challenge.rw_tl0036_01.Holds :=
  Mine.top0 Mine.walk0
