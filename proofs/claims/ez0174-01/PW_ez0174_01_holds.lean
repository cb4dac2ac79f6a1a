import PyProof.Rows.All
import Wide.All
import OpenK.AllK
import Wide.FinOn
import Lean
import PySem.Challenge.RW_ez0174_01
open PySem PySem.W PyProof.Rows
set_option Elab.async false
set_option maxRecDepth 100000
set_option maxHeartbeats 8000000
set_option linter.all false
noncomputable section
namespace Mine
/- The written part of the heap behind the top: which objects the proof reads. Printed by wip/KGen.lean. -/
noncomputable abbrev PG : Program := PySem.Challenge.pw_ez0174_01
noncomputable def stA (i : Nat) : Stmt := PG.main.body.getD i (.Pass ⟨0, 0, 0, 0⟩)
noncomputable def stB (i j : Nat) : Stmt := match stA i with | .ClassDef _ _ _ b _ _ _ _ _ _ _ => b.getD j (.Pass ⟨0, 0, 0, 0⟩) | s => s
noncomputable def fnB : Stmt → List Stmt | .FunctionDef _ _ b _ _ _ _ _ _ _ => b | _ => []
noncomputable def fnP : Stmt → Arguments | .FunctionDef _ a _ _ _ _ _ _ _ _ => a | _ => ⟨[], [], none, [], [], none, []⟩
noncomputable def fnS : Stmt → Scope | .FunctionDef _ _ _ _ _ _ s _ _ _ => s | _ => default
/-- a look that keeps a term from being turned; see wip/mkKT.sh -/
theorem pzh : (Str.ofString "z").length = 1 := by decide +kernel
noncomputable def ko2 (P : Params) : Obj := id (fun (_ : (Str.ofString "z").length = 1) => ({ cls := .none, dict := none, data := (.dict (List.toArray []) 0), slots := List.toArray [] } : Obj)) pzh
noncomputable def ko3 (P : Params) : Obj := id (fun (_ : (Str.ofString "z").length = 1) => ({ cls := (.type "dict"), dict := none, data := (.dict (List.toArray [⟨PyData.keyHash P (Str.ofString "__name__"), (.str (Str.ofString "__name__") 165), (.str (Str.ofString "law_ez0174_01") 1235)⟩, ⟨PyData.keyHash P (Str.ofString "__doc__"), (.str (Str.ofString "__doc__") 166), .none⟩, ⟨PyData.keyHash P (Str.ofString "__package__"), (.str (Str.ofString "__package__") 167), .none⟩, ⟨PyData.keyHash P (Str.ofString "__loader__"), (.str (Str.ofString "__loader__") 168), (.builtin "__main__.__loader__#opaque")⟩, ⟨PyData.keyHash P (Str.ofString "__spec__"), (.str (Str.ofString "__spec__") 169), .none⟩, ⟨PyData.keyHash P (Str.ofString "__annotations__"), (.str (Str.ofString "__annotations__") 170), (.ref 6)⟩, ⟨PyData.keyHash P (Str.ofString "__builtins__"), (.str (Str.ofString "__builtins__") 171), (.ref 4)⟩, ⟨PyData.keyHash P (Str.ofString "__file__"), (.str (Str.ofString "__file__") 173), (.str (Str.ofString "/claim/cut.py") 172)⟩, ⟨PyData.keyHash P (Str.ofString "__cached__"), (.str (Str.ofString "__cached__") 174), .none⟩, ⟨PyData.keyHash P (Str.ofString "_wall"), (.str (Str.ofString "_wall") 193), (.ref 21)⟩, ⟨PyData.keyHash P (Str.ofString "_pe_name"), (.str (Str.ofString "_pe_name") 200), (.ref 28)⟩, ⟨PyData.keyHash P (Str.ofString "CommonToken"), (.str (Str.ofString "CommonToken") 256), (.ref 54)⟩, ⟨PyData.keyHash P (Str.ofString "Node"), (.str (Str.ofString "Node") 343), (.ref 124)⟩, ⟨PyData.keyHash P (Str.ofString "Comment"), (.str (Str.ofString "Comment") 373), (.ref 148)⟩, ⟨PyData.keyHash P (Str.ofString "Expression"), (.str (Str.ofString "Expression") 402), (.ref 170)⟩, ⟨PyData.keyHash P (Str.ofString "Statement"), (.str (Str.ofString "Statement") 418), (.ref 182)⟩, ⟨PyData.keyHash P (Str.ofString "Block"), (.str (Str.ofString "Block") 446), (.ref 203)⟩, ⟨PyData.keyHash P (Str.ofString "Chunk"), (.str (Str.ofString "Chunk") 474), (.ref 224)⟩, ⟨PyData.keyHash P (Str.ofString "Lhs"), (.str (Str.ofString "Lhs") 490), (.ref 236)⟩, ⟨PyData.keyHash P (Str.ofString "Name"), (.str (Str.ofString "Name") 520), (.ref 258)⟩, ⟨PyData.keyHash P (Str.ofString "IndexNotation"), (.str (Str.ofString "IndexNotation") 544), (.ref 270)⟩, ⟨PyData.keyHash P (Str.ofString "Do"), (.str (Str.ofString "Do") 572), (.ref 293)⟩, ⟨PyData.keyHash P (Str.ofString "ElseIf"), (.str (Str.ofString "ElseIf") 604), (.ref 314)⟩, ⟨PyData.keyHash P (Str.ofString "Call"), (.str (Str.ofString "Call") 637), (.ref 336)⟩, ⟨PyData.keyHash P (Str.ofString "StringDelimiter"), (.str (Str.ofString "StringDelimiter") 663), (.ref 348)⟩, ⟨PyData.keyHash P (Str.ofString "indent"), (.str (Str.ofString "indent") 671), (.ref 357)⟩, ⟨PyData.keyHash P (Str.ofString "LuaOutputVisitor"), (.str (Str.ofString "LuaOutputVisitor") 1223), (.ref 823)⟩, ⟨PyData.keyHash P (Str.ofString "to_lua_source"), (.str (Str.ofString "to_lua_source") 1234), (.ref 835)⟩, ⟨PyData.keyHash P (Str.ofString "_law_draw"), (.str (Str.ofString "_law_draw") 1247), (.ref 842)⟩, ⟨PyData.keyHash P (Str.ofString "_law_sign"), (.str (Str.ofString "_law_sign") 1255), (.ref 849)⟩, ⟨PyData.keyHash P (Str.ofString "_law_remarks"), (.str (Str.ofString "_law_remarks") 1269), (.ref 856)⟩, ⟨PyData.keyHash P (Str.ofString "_law_behind"), (.str (Str.ofString "_law_behind") 1281), (.ref 863)⟩, ⟨PyData.keyHash P (Str.ofString "law"), (.str (Str.ofString "law") 1303), (.ref 870)⟩]) 33), slots := List.toArray [] } : Obj)) pzh
noncomputable def ko27 (P : Params) : Obj := id (fun (_ : (Str.ofString "z").length = 1) => ({ cls := (.type "code"), dict := none, data := (.fields (List.toArray [(.str (Str.ofString "_pe_name") 194), (.str (Str.ofString "_pe_name") 195), (.str (Str.ofString "/claim/cut.py") 196), (.int (4) 0), (.int (1) 0), (.int (0) 0), (.int (0) 0), (.int (3) 0), (.ref 22), (.bool true), (.int (181) 0), (.ref 23), .none, (.ref 24), (.ref 25), (.ref 26), (.int (198) 0), (.int (4) 0), (.str (Str.ofString "/claim/cut.py") 199)])), slots := List.toArray [] } : Obj)) pzh
noncomputable def ko28 (P : Params) : Obj := id (fun (_ : (Str.ofString "z").length = 1) => ({ cls := (.type "function"), dict := none, data := (.func { name := Str.ofString "_pe_name", qualname := Str.ofString "_pe_name", params := fnP (stA 1), body := .stmts (fnB (stA 1)), scope := fnS (stA 1), globals := 3, closure := [], defaults := .none, kwdefaults := .none, doc := .none, pyModule := (.str (Str.ofString "__main__") 164), annotations := none, code := (.ref 27), closureTuple := .none, builtins := 0 }), slots := List.toArray [] } : Obj)) pzh
noncomputable def ko36 (P : Params) : Obj := id (fun (_ : (Str.ofString "z").length = 1) => ({ cls := (.type "tuple"), dict := none, data := (.seq (List.toArray [.none, .none]) 0), slots := List.toArray [] } : Obj)) pzh
noncomputable def ko37 (P : Params) : Obj := id (fun (_ : (Str.ofString "z").length = 1) => ({ cls := (.type "tuple"), dict := none, data := (.seq (List.toArray [(.int (-1) 217), (.int (0) 218), (.int (-1) 220), (.int (-1) 222)]) 0), slots := List.toArray [] } : Obj)) pzh
noncomputable def ko43 (P : Params) : Obj := id (fun (_ : (Str.ofString "z").length = 1) => ({ cls := (.type "code"), dict := none, data := (.fields (List.toArray [(.str (Str.ofString "__init__") 223), (.str (Str.ofString "CommonToken.__init__") 224), (.str (Str.ofString "/claim/cut.py") 225), (.int (12) 0), (.int (6) 0), (.int (0) 0), (.int (0) 0), (.int (3) 0), (.ref 38), (.bool true), (.int (181) 0), (.ref 39), .none, (.ref 40), (.ref 41), (.ref 42), (.int (232) 0), (.int (12) 0), (.str (Str.ofString "/claim/cut.py") 233)])), slots := List.toArray [] } : Obj)) pzh
noncomputable def ko44 (P : Params) : Obj := id (fun (_ : (Str.ofString "z").length = 1) => ({ cls := (.type "function"), dict := none, data := (.func { name := Str.ofString "__init__", qualname := Str.ofString "CommonToken.__init__", params := fnP (stB 3 1), body := .stmts (fnB (stB 3 1)), scope := fnS (stB 3 1), globals := 3, closure := [], defaults := (.ref 37), kwdefaults := .none, doc := .none, pyModule := (.str (Str.ofString "luaparser.handed") 201), annotations := none, code := (.ref 43), closureTuple := .none, builtins := 0 }), slots := List.toArray [] } : Obj)) pzh
noncomputable def ko50 (P : Params) : Obj := id (fun (_ : (Str.ofString "z").length = 1) => ({ cls := (.type "code"), dict := none, data := (.fields (List.toArray [(.str (Str.ofString "clone") 235), (.str (Str.ofString "CommonToken.clone") 236), (.str (Str.ofString "/claim/cut.py") 237), (.int (20) 0), (.int (1) 0), (.int (0) 0), (.int (0) 0), (.int (3) 0), (.ref 45), (.bool true), (.int (181) 0), (.ref 46), .none, (.ref 47), (.ref 48), (.ref 49), (.int (240) 0), (.int (20) 0), (.str (Str.ofString "/claim/cut.py") 241)])), slots := List.toArray [] } : Obj)) pzh
noncomputable def ko51 (P : Params) : Obj := id (fun (_ : (Str.ofString "z").length = 1) => ({ cls := (.type "function"), dict := none, data := (.func { name := Str.ofString "clone", qualname := Str.ofString "CommonToken.clone", params := fnP (stB 3 2), body := .stmts (fnB (stB 3 2)), scope := fnS (stB 3 2), globals := 3, closure := [], defaults := .none, kwdefaults := .none, doc := .none, pyModule := (.str (Str.ofString "luaparser.handed") 201), annotations := none, code := (.ref 50), closureTuple := .none, builtins := 0 }), slots := List.toArray [] } : Obj)) pzh
noncomputable def ko53 (P : Params) : Obj := id (fun (_ : (Str.ofString "z").length = 1) => ({ cls := (.type "dict"), dict := none, data := (.dict (List.toArray [⟨PyData.keyHash P (Str.ofString "__module__"), (.str (Str.ofString "__module__") 210), (.str (Str.ofString "luaparser.handed") 201)⟩, ⟨PyData.keyHash P (Str.ofString "__firstlineno__"), (.str (Str.ofString "__firstlineno__") 214), (.int (9) 213)⟩, ⟨PyData.keyHash P (Str.ofString "EMPTY_SOURCE"), (.str (Str.ofString "EMPTY_SOURCE") 215), (.ref 36)⟩, ⟨PyData.keyHash P (Str.ofString "__init__"), (.str (Str.ofString "__init__") 234), (.ref 44)⟩, ⟨PyData.keyHash P (Str.ofString "clone"), (.str (Str.ofString "clone") 242), (.ref 51)⟩, ⟨PyData.keyHash P (Str.ofString "__static_attributes__"), (.str (Str.ofString "__static_attributes__") 249), (.ref 52)⟩, ⟨PyData.keyHash P (Str.ofString "__dict__"), (.str (Str.ofString "__dict__") 251), (.ref 55)⟩, ⟨PyData.keyHash P (Str.ofString "__weakref__"), (.str (Str.ofString "__weakref__") 253), (.ref 56)⟩, ⟨PyData.keyHash P (Str.ofString "__doc__"), (.str (Str.ofString "__doc__") 254), .none⟩]) 4), slots := List.toArray [] } : Obj)) pzh
noncomputable def ko54 (P : Params) : Obj := id (fun (_ : (Str.ofString "z").length = 1) => ({ cls := (.type "type"), dict := none, data := (.cls { name := Str.ofString "CommonToken", bases := [(.type "object")], mro := [(.ref 54), (.type "object")], ns := 53, qualname := Str.ofString "CommonToken", hasDict := true, slotNames := [], subclasses := [], abstract := false, collection := none, hasDel := false }), slots := List.toArray [none, none, (some (.str (Str.ofString "CommonToken") 203)), (some (.str (Str.ofString "CommonToken") 211)), (some (.builtin "object.__new__")), (some (.bool true))] } : Obj)) pzh
noncomputable def ko66 (P : Params) : Obj := id (fun (_ : (Str.ofString "z").length = 1) => ({ cls := (.type "tuple"), dict := none, data := (.seq (List.toArray [.none, .none, .none]) 0), slots := List.toArray [] } : Obj)) pzh
noncomputable def ko72 (P : Params) : Obj := id (fun (_ : (Str.ofString "z").length = 1) => ({ cls := (.type "code"), dict := none, data := (.fields (List.toArray [(.str (Str.ofString "__init__") 271), (.str (Str.ofString "Node.__init__") 272), (.str (Str.ofString "/claim/cut.py") 273), (.int (27) 0), (.int (5) 0), (.int (0) 0), (.int (0) 0), (.int (3) 0), (.ref 67), (.bool true), (.int (181) 0), (.ref 68), .none, (.ref 69), (.ref 70), (.ref 71), (.int (279) 0), (.int (27) 0), (.str (Str.ofString "/claim/cut.py") 280)])), slots := List.toArray [] } : Obj)) pzh
noncomputable def ko73 (P : Params) : Obj := id (fun (_ : (Str.ofString "z").length = 1) => ({ cls := (.type "function"), dict := none, data := (.func { name := Str.ofString "__init__", qualname := Str.ofString "Node.__init__", params := fnP (stB 5 0), body := .stmts (fnB (stB 5 0)), scope := fnS (stB 5 0), globals := 3, closure := [], defaults := (.ref 66), kwdefaults := .none, doc := .none, pyModule := (.str (Str.ofString "luaparser.astnodes") 257), annotations := none, code := (.ref 72), closureTuple := .none, builtins := 0 }), slots := List.toArray [] } : Obj)) pzh
noncomputable def ko87 (P : Params) : Obj := id (fun (_ : (Str.ofString "z").length = 1) => ({ cls := (.type "code"), dict := none, data := (.fields (List.toArray [(.str (Str.ofString "first_token") 290), (.str (Str.ofString "Node.first_token") 291), (.str (Str.ofString "/claim/cut.py") 292), (.int (45) 0), (.int (1) 0), (.int (0) 0), (.int (0) 0), (.int (3) 0), (.ref 82), (.bool true), (.int (181) 0), (.ref 83), .none, (.ref 84), (.ref 85), (.ref 86), (.int (294) 0), (.int (45) 0), (.str (Str.ofString "/claim/cut.py") 295)])), slots := List.toArray [] } : Obj)) pzh
noncomputable def ko88 (P : Params) : Obj := id (fun (_ : (Str.ofString "z").length = 1) => ({ cls := (.type "function"), dict := none, data := (.func { name := Str.ofString "first_token", qualname := Str.ofString "Node.first_token", params := fnP (stB 5 2), body := .stmts (fnB (stB 5 2)), scope := fnS (stB 5 2), globals := 3, closure := [], defaults := .none, kwdefaults := .none, doc := .none, pyModule := (.str (Str.ofString "luaparser.astnodes") 257), annotations := none, code := (.ref 87), closureTuple := .none, builtins := 0 }), slots := List.toArray [] } : Obj)) pzh
noncomputable def ko89 (P : Params) : Obj := id (fun (_ : (Str.ofString "z").length = 1) => ({ cls := (.type "property"), dict := none, data := (.fields (List.toArray [(.ref 88), .none, .none, .none, (.str (Str.ofString "first_token") 297), (.bool false)])), slots := List.toArray [] } : Obj)) pzh
noncomputable def ko95 (P : Params) : Obj := id (fun (_ : (Str.ofString "z").length = 1) => ({ cls := (.type "code"), dict := none, data := (.fields (List.toArray [(.str (Str.ofString "last_token") 298), (.str (Str.ofString "Node.last_token") 299), (.str (Str.ofString "/claim/cut.py") 300), (.int (49) 0), (.int (1) 0), (.int (0) 0), (.int (0) 0), (.int (3) 0), (.ref 90), (.bool true), (.int (181) 0), (.ref 91), .none, (.ref 92), (.ref 93), (.ref 94), (.int (302) 0), (.int (49) 0), (.str (Str.ofString "/claim/cut.py") 303)])), slots := List.toArray [] } : Obj)) pzh
noncomputable def ko96 (P : Params) : Obj := id (fun (_ : (Str.ofString "z").length = 1) => ({ cls := (.type "function"), dict := none, data := (.func { name := Str.ofString "last_token", qualname := Str.ofString "Node.last_token", params := fnP (stB 5 3), body := .stmts (fnB (stB 5 3)), scope := fnS (stB 5 3), globals := 3, closure := [], defaults := .none, kwdefaults := .none, doc := .none, pyModule := (.str (Str.ofString "luaparser.astnodes") 257), annotations := none, code := (.ref 95), closureTuple := .none, builtins := 0 }), slots := List.toArray [] } : Obj)) pzh
noncomputable def ko97 (P : Params) : Obj := id (fun (_ : (Str.ofString "z").length = 1) => ({ cls := (.type "property"), dict := none, data := (.fields (List.toArray [(.ref 96), .none, .none, .none, (.str (Str.ofString "last_token") 305), (.bool false)])), slots := List.toArray [] } : Obj)) pzh
noncomputable def ko123 (P : Params) : Obj := id (fun (_ : (Str.ofString "z").length = 1) => ({ cls := (.type "dict"), dict := none, data := (.dict (List.toArray [⟨PyData.keyHash P (Str.ofString "__module__"), (.str (Str.ofString "__module__") 266), (.str (Str.ofString "luaparser.astnodes") 257)⟩, ⟨PyData.keyHash P (Str.ofString "__firstlineno__"), (.str (Str.ofString "__firstlineno__") 270), (.int (25) 269)⟩, ⟨PyData.keyHash P (Str.ofString "__init__"), (.str (Str.ofString "__init__") 281), (.ref 73)⟩, ⟨PyData.keyHash P (Str.ofString "display_name"), (.str (Str.ofString "display_name") 289), (.ref 81)⟩, ⟨PyData.keyHash P (Str.ofString "first_token"), (.str (Str.ofString "first_token") 297), (.ref 89)⟩, ⟨PyData.keyHash P (Str.ofString "last_token"), (.str (Str.ofString "last_token") 305), (.ref 97)⟩, ⟨PyData.keyHash P (Str.ofString "start_char"), (.str (Str.ofString "start_char") 314), (.ref 105)⟩, ⟨PyData.keyHash P (Str.ofString "stop_char"), (.str (Str.ofString "stop_char") 323), (.ref 113)⟩, ⟨PyData.keyHash P (Str.ofString "line"), (.str (Str.ofString "line") 331), (.ref 121)⟩, ⟨PyData.keyHash P (Str.ofString "__static_attributes__"), (.str (Str.ofString "__static_attributes__") 336), (.ref 122)⟩, ⟨PyData.keyHash P (Str.ofString "__dict__"), (.str (Str.ofString "__dict__") 338), (.ref 125)⟩, ⟨PyData.keyHash P (Str.ofString "__weakref__"), (.str (Str.ofString "__weakref__") 340), (.ref 126)⟩, ⟨PyData.keyHash P (Str.ofString "__doc__"), (.str (Str.ofString "__doc__") 341), .none⟩]) 4), slots := List.toArray [] } : Obj)) pzh
noncomputable def ko124 (P : Params) : Obj := id (fun (_ : (Str.ofString "z").length = 1) => ({ cls := (.type "type"), dict := none, data := (.cls { name := Str.ofString "Node", bases := [(.type "object")], mro := [(.ref 124), (.type "object")], ns := 123, qualname := Str.ofString "Node", hasDict := true, slotNames := [], subclasses := [(.ref 148), (.ref 170), (.ref 203), (.ref 224)], abstract := false, collection := none, hasDel := false }), slots := List.toArray [none, none, (some (.str (Str.ofString "Node") 259)), (some (.str (Str.ofString "Node") 267)), (some (.builtin "object.__new__")), (some (.bool true))] } : Obj)) pzh
noncomputable def ko132 (P : Params) : Obj := id (fun (_ : (Str.ofString "z").length = 1) => ({ cls := (.type "cell"), dict := none, data := (.cell (some (.ref 148))), slots := List.toArray [] } : Obj)) pzh
noncomputable def ko137 (P : Params) : Obj := id (fun (_ : (Str.ofString "z").length = 1) => ({ cls := (.type "tuple"), dict := none, data := (.seq (List.toArray [(.bool false)]) 0), slots := List.toArray [] } : Obj)) pzh
noncomputable def ko138 (P : Params) : Obj := id (fun (_ : (Str.ofString "z").length = 1) => ({ cls := (.type "tuple"), dict := none, data := (.seq (List.toArray [(.ref 132)]) 0), slots := List.toArray [] } : Obj)) pzh
noncomputable def ko144 (P : Params) : Obj := id (fun (_ : (Str.ofString "z").length = 1) => ({ cls := (.type "code"), dict := none, data := (.fields (List.toArray [(.str (Str.ofString "__init__") 356), (.str (Str.ofString "Comment.__init__") 357), (.str (Str.ofString "/claim/cut.py") 358), (.int (68) 0), (.int (3) 0), (.int (0) 0), (.int (0) 0), (.int (11) 0), (.ref 139), (.bool true), (.int (181) 0), (.ref 140), .none, (.ref 141), (.ref 142), (.ref 143), (.int (364) 0), (.int (68) 0), (.str (Str.ofString "/claim/cut.py") 365)])), slots := List.toArray [] } : Obj)) pzh
noncomputable def ko145 (P : Params) : Obj := id (fun (_ : (Str.ofString "z").length = 1) => ({ cls := (.type "function"), dict := none, data := (.func { name := Str.ofString "__init__", qualname := Str.ofString "Comment.__init__", params := fnP (stB 6 0), body := .stmts (fnB (stB 6 0)), scope := fnS (stB 6 0), globals := 3, closure := [(Str.ofString "__class__", 132)], defaults := (.ref 137), kwdefaults := .none, doc := .none, pyModule := (.str (Str.ofString "luaparser.astnodes") 257), annotations := none, code := (.ref 144), closureTuple := (.ref 138), builtins := 0 }), slots := List.toArray [] } : Obj)) pzh
noncomputable def ko147 (P : Params) : Obj := id (fun (_ : (Str.ofString "z").length = 1) => ({ cls := (.type "dict"), dict := none, data := (.dict (List.toArray [⟨PyData.keyHash P (Str.ofString "__module__"), (.str (Str.ofString "__module__") 351), (.str (Str.ofString "luaparser.astnodes") 257)⟩, ⟨PyData.keyHash P (Str.ofString "__firstlineno__"), (.str (Str.ofString "__firstlineno__") 355), (.int (66) 354)⟩, ⟨PyData.keyHash P (Str.ofString "__init__"), (.str (Str.ofString "__init__") 366), (.ref 145)⟩, ⟨PyData.keyHash P (Str.ofString "__static_attributes__"), (.str (Str.ofString "__static_attributes__") 369), (.ref 146)⟩, ⟨PyData.keyHash P (Str.ofString "__doc__"), (.str (Str.ofString "__doc__") 371), .none⟩]) 3), slots := List.toArray [] } : Obj)) pzh
noncomputable def ko148 (P : Params) : Obj := id (fun (_ : (Str.ofString "z").length = 1) => ({ cls := (.type "type"), dict := none, data := (.cls { name := Str.ofString "Comment", bases := [(.ref 124)], mro := [(.ref 148), (.ref 124), (.type "object")], ns := 147, qualname := Str.ofString "Comment", hasDict := true, slotNames := [], subclasses := [], abstract := false, collection := none, hasDel := false }), slots := List.toArray [(some (.ref 129)), none, (some (.str (Str.ofString "Comment") 344)), (some (.str (Str.ofString "Comment") 352)), (some (.builtin "object.__new__")), (some (.bool true))] } : Obj)) pzh
noncomputable def ko154 (P : Params) : Obj := id (fun (_ : (Str.ofString "z").length = 1) => ({ cls := (.type "cell"), dict := none, data := (.cell (some (.ref 170))), slots := List.toArray [] } : Obj)) pzh
noncomputable def ko159 (P : Params) : Obj := id (fun (_ : (Str.ofString "z").length = 1) => ({ cls := (.type "tuple"), dict := none, data := (.seq (List.toArray [(.bool false)]) 0), slots := List.toArray [] } : Obj)) pzh
noncomputable def ko160 (P : Params) : Obj := id (fun (_ : (Str.ofString "z").length = 1) => ({ cls := (.type "tuple"), dict := none, data := (.seq (List.toArray [(.ref 154)]) 0), slots := List.toArray [] } : Obj)) pzh
noncomputable def ko166 (P : Params) : Obj := id (fun (_ : (Str.ofString "z").length = 1) => ({ cls := (.type "code"), dict := none, data := (.fields (List.toArray [(.str (Str.ofString "__init__") 386), (.str (Str.ofString "Expression.__init__") 387), (.str (Str.ofString "/claim/cut.py") 388), (.int (74) 0), (.int (3) 0), (.int (0) 0), (.int (0) 0), (.int (11) 0), (.ref 161), (.bool true), (.int (181) 0), (.ref 162), .none, (.ref 163), (.ref 164), (.ref 165), (.int (394) 0), (.int (74) 0), (.str (Str.ofString "/claim/cut.py") 395)])), slots := List.toArray [] } : Obj)) pzh
noncomputable def ko167 (P : Params) : Obj := id (fun (_ : (Str.ofString "z").length = 1) => ({ cls := (.type "function"), dict := none, data := (.func { name := Str.ofString "__init__", qualname := Str.ofString "Expression.__init__", params := fnP (stB 7 0), body := .stmts (fnB (stB 7 0)), scope := fnS (stB 7 0), globals := 3, closure := [(Str.ofString "__class__", 154)], defaults := (.ref 159), kwdefaults := .none, doc := .none, pyModule := (.str (Str.ofString "luaparser.astnodes") 257), annotations := none, code := (.ref 166), closureTuple := (.ref 160), builtins := 0 }), slots := List.toArray [] } : Obj)) pzh
noncomputable def ko169 (P : Params) : Obj := id (fun (_ : (Str.ofString "z").length = 1) => ({ cls := (.type "dict"), dict := none, data := (.dict (List.toArray [⟨PyData.keyHash P (Str.ofString "__module__"), (.str (Str.ofString "__module__") 381), (.str (Str.ofString "luaparser.astnodes") 257)⟩, ⟨PyData.keyHash P (Str.ofString "__firstlineno__"), (.str (Str.ofString "__firstlineno__") 385), (.int (72) 384)⟩, ⟨PyData.keyHash P (Str.ofString "__init__"), (.str (Str.ofString "__init__") 396), (.ref 167)⟩, ⟨PyData.keyHash P (Str.ofString "__static_attributes__"), (.str (Str.ofString "__static_attributes__") 398), (.ref 168)⟩, ⟨PyData.keyHash P (Str.ofString "__doc__"), (.str (Str.ofString "__doc__") 400), .none⟩]) 3), slots := List.toArray [] } : Obj)) pzh
noncomputable def ko170 (P : Params) : Obj := id (fun (_ : (Str.ofString "z").length = 1) => ({ cls := (.type "type"), dict := none, data := (.cls { name := Str.ofString "Expression", bases := [(.ref 124)], mro := [(.ref 170), (.ref 124), (.type "object")], ns := 169, qualname := Str.ofString "Expression", hasDict := true, slotNames := [], subclasses := [(.ref 182), (.ref 236)], abstract := false, collection := none, hasDel := false }), slots := List.toArray [(some (.ref 151)), none, (some (.str (Str.ofString "Expression") 374)), (some (.str (Str.ofString "Expression") 382)), (some (.builtin "object.__new__")), (some (.bool true))] } : Obj)) pzh
noncomputable def ko181 (P : Params) : Obj := id (fun (_ : (Str.ofString "z").length = 1) => ({ cls := (.type "dict"), dict := none, data := (.dict (List.toArray [⟨PyData.keyHash P (Str.ofString "__module__"), (.str (Str.ofString "__module__") 410), (.str (Str.ofString "luaparser.astnodes") 257)⟩, ⟨PyData.keyHash P (Str.ofString "__firstlineno__"), (.str (Str.ofString "__firstlineno__") 414), (.int (77) 413)⟩, ⟨PyData.keyHash P (Str.ofString "__static_attributes__"), (.str (Str.ofString "__static_attributes__") 415), (.ref 180)⟩, ⟨PyData.keyHash P (Str.ofString "__doc__"), (.str (Str.ofString "__doc__") 416), .none⟩]) 2), slots := List.toArray [] } : Obj)) pzh
noncomputable def ko182 (P : Params) : Obj := id (fun (_ : (Str.ofString "z").length = 1) => ({ cls := (.type "type"), dict := none, data := (.cls { name := Str.ofString "Statement", bases := [(.ref 170)], mro := [(.ref 182), (.ref 170), (.ref 124), (.type "object")], ns := 181, qualname := Str.ofString "Statement", hasDict := true, slotNames := [], subclasses := [(.ref 293), (.ref 314), (.ref 336)], abstract := false, collection := none, hasDel := false }), slots := List.toArray [(some (.ref 173)), none, (some (.str (Str.ofString "Statement") 403)), (some (.str (Str.ofString "Statement") 411)), (some (.builtin "object.__new__")), (some (.bool true))] } : Obj)) pzh
noncomputable def ko188 (P : Params) : Obj := id (fun (_ : (Str.ofString "z").length = 1) => ({ cls := (.type "cell"), dict := none, data := (.cell (some (.ref 203))), slots := List.toArray [] } : Obj)) pzh
noncomputable def ko193 (P : Params) : Obj := id (fun (_ : (Str.ofString "z").length = 1) => ({ cls := (.type "tuple"), dict := none, data := (.seq (List.toArray [(.ref 188)]) 0), slots := List.toArray [] } : Obj)) pzh
noncomputable def ko199 (P : Params) : Obj := id (fun (_ : (Str.ofString "z").length = 1) => ({ cls := (.type "code"), dict := none, data := (.fields (List.toArray [(.str (Str.ofString "__init__") 431), (.str (Str.ofString "Block.__init__") 432), (.str (Str.ofString "/claim/cut.py") 433), (.int (81) 0), (.int (2) 0), (.int (0) 0), (.int (0) 0), (.int (11) 0), (.ref 194), (.bool true), (.int (181) 0), (.ref 195), .none, (.ref 196), (.ref 197), (.ref 198), (.int (438) 0), (.int (81) 0), (.str (Str.ofString "/claim/cut.py") 439)])), slots := List.toArray [] } : Obj)) pzh
noncomputable def ko200 (P : Params) : Obj := id (fun (_ : (Str.ofString "z").length = 1) => ({ cls := (.type "function"), dict := none, data := (.func { name := Str.ofString "__init__", qualname := Str.ofString "Block.__init__", params := fnP (stB 9 0), body := .stmts (fnB (stB 9 0)), scope := fnS (stB 9 0), globals := 3, closure := [(Str.ofString "__class__", 188)], defaults := .none, kwdefaults := .none, doc := .none, pyModule := (.str (Str.ofString "luaparser.astnodes") 257), annotations := none, code := (.ref 199), closureTuple := (.ref 193), builtins := 0 }), slots := List.toArray [] } : Obj)) pzh
noncomputable def ko202 (P : Params) : Obj := id (fun (_ : (Str.ofString "z").length = 1) => ({ cls := (.type "dict"), dict := none, data := (.dict (List.toArray [⟨PyData.keyHash P (Str.ofString "__module__"), (.str (Str.ofString "__module__") 426), (.str (Str.ofString "luaparser.astnodes") 257)⟩, ⟨PyData.keyHash P (Str.ofString "__firstlineno__"), (.str (Str.ofString "__firstlineno__") 430), (.int (79) 429)⟩, ⟨PyData.keyHash P (Str.ofString "__init__"), (.str (Str.ofString "__init__") 440), (.ref 200)⟩, ⟨PyData.keyHash P (Str.ofString "__static_attributes__"), (.str (Str.ofString "__static_attributes__") 442), (.ref 201)⟩, ⟨PyData.keyHash P (Str.ofString "__doc__"), (.str (Str.ofString "__doc__") 444), .none⟩]) 3), slots := List.toArray [] } : Obj)) pzh
noncomputable def ko203 (P : Params) : Obj := id (fun (_ : (Str.ofString "z").length = 1) => ({ cls := (.type "type"), dict := none, data := (.cls { name := Str.ofString "Block", bases := [(.ref 124)], mro := [(.ref 203), (.ref 124), (.type "object")], ns := 202, qualname := Str.ofString "Block", hasDict := true, slotNames := [], subclasses := [], abstract := false, collection := none, hasDel := false }), slots := List.toArray [(some (.ref 185)), none, (some (.str (Str.ofString "Block") 419)), (some (.str (Str.ofString "Block") 427)), (some (.builtin "object.__new__")), (some (.bool true))] } : Obj)) pzh
noncomputable def ko209 (P : Params) : Obj := id (fun (_ : (Str.ofString "z").length = 1) => ({ cls := (.type "cell"), dict := none, data := (.cell (some (.ref 224))), slots := List.toArray [] } : Obj)) pzh
noncomputable def ko214 (P : Params) : Obj := id (fun (_ : (Str.ofString "z").length = 1) => ({ cls := (.type "tuple"), dict := none, data := (.seq (List.toArray [(.ref 209)]) 0), slots := List.toArray [] } : Obj)) pzh
noncomputable def ko220 (P : Params) : Obj := id (fun (_ : (Str.ofString "z").length = 1) => ({ cls := (.type "code"), dict := none, data := (.fields (List.toArray [(.str (Str.ofString "__init__") 459), (.str (Str.ofString "Chunk.__init__") 460), (.str (Str.ofString "/claim/cut.py") 461), (.int (86) 0), (.int (2) 0), (.int (0) 0), (.int (0) 0), (.int (11) 0), (.ref 215), (.bool true), (.int (181) 0), (.ref 216), .none, (.ref 217), (.ref 218), (.ref 219), (.int (466) 0), (.int (86) 0), (.str (Str.ofString "/claim/cut.py") 467)])), slots := List.toArray [] } : Obj)) pzh
noncomputable def ko221 (P : Params) : Obj := id (fun (_ : (Str.ofString "z").length = 1) => ({ cls := (.type "function"), dict := none, data := (.func { name := Str.ofString "__init__", qualname := Str.ofString "Chunk.__init__", params := fnP (stB 10 0), body := .stmts (fnB (stB 10 0)), scope := fnS (stB 10 0), globals := 3, closure := [(Str.ofString "__class__", 209)], defaults := .none, kwdefaults := .none, doc := .none, pyModule := (.str (Str.ofString "luaparser.astnodes") 257), annotations := none, code := (.ref 220), closureTuple := (.ref 214), builtins := 0 }), slots := List.toArray [] } : Obj)) pzh
noncomputable def ko223 (P : Params) : Obj := id (fun (_ : (Str.ofString "z").length = 1) => ({ cls := (.type "dict"), dict := none, data := (.dict (List.toArray [⟨PyData.keyHash P (Str.ofString "__module__"), (.str (Str.ofString "__module__") 454), (.str (Str.ofString "luaparser.astnodes") 257)⟩, ⟨PyData.keyHash P (Str.ofString "__firstlineno__"), (.str (Str.ofString "__firstlineno__") 458), (.int (84) 457)⟩, ⟨PyData.keyHash P (Str.ofString "__init__"), (.str (Str.ofString "__init__") 468), (.ref 221)⟩, ⟨PyData.keyHash P (Str.ofString "__static_attributes__"), (.str (Str.ofString "__static_attributes__") 470), (.ref 222)⟩, ⟨PyData.keyHash P (Str.ofString "__doc__"), (.str (Str.ofString "__doc__") 472), .none⟩]) 3), slots := List.toArray [] } : Obj)) pzh
noncomputable def ko224 (P : Params) : Obj := id (fun (_ : (Str.ofString "z").length = 1) => ({ cls := (.type "type"), dict := none, data := (.cls { name := Str.ofString "Chunk", bases := [(.ref 124)], mro := [(.ref 224), (.ref 124), (.type "object")], ns := 223, qualname := Str.ofString "Chunk", hasDict := true, slotNames := [], subclasses := [], abstract := false, collection := none, hasDel := false }), slots := List.toArray [(some (.ref 206)), none, (some (.str (Str.ofString "Chunk") 447)), (some (.str (Str.ofString "Chunk") 455)), (some (.builtin "object.__new__")), (some (.bool true))] } : Obj)) pzh
noncomputable def ko235 (P : Params) : Obj := id (fun (_ : (Str.ofString "z").length = 1) => ({ cls := (.type "dict"), dict := none, data := (.dict (List.toArray [⟨PyData.keyHash P (Str.ofString "__module__"), (.str (Str.ofString "__module__") 482), (.str (Str.ofString "luaparser.astnodes") 257)⟩, ⟨PyData.keyHash P (Str.ofString "__firstlineno__"), (.str (Str.ofString "__firstlineno__") 486), (.int (89) 485)⟩, ⟨PyData.keyHash P (Str.ofString "__static_attributes__"), (.str (Str.ofString "__static_attributes__") 487), (.ref 234)⟩, ⟨PyData.keyHash P (Str.ofString "__doc__"), (.str (Str.ofString "__doc__") 488), .none⟩]) 2), slots := List.toArray [] } : Obj)) pzh
noncomputable def ko236 (P : Params) : Obj := id (fun (_ : (Str.ofString "z").length = 1) => ({ cls := (.type "type"), dict := none, data := (.cls { name := Str.ofString "Lhs", bases := [(.ref 170)], mro := [(.ref 236), (.ref 170), (.ref 124), (.type "object")], ns := 235, qualname := Str.ofString "Lhs", hasDict := true, slotNames := [], subclasses := [(.ref 258)], abstract := false, collection := none, hasDel := false }), slots := List.toArray [(some (.ref 227)), none, (some (.str (Str.ofString "Lhs") 475)), (some (.str (Str.ofString "Lhs") 483)), (some (.builtin "object.__new__")), (some (.bool true))] } : Obj)) pzh
noncomputable def ko242 (P : Params) : Obj := id (fun (_ : (Str.ofString "z").length = 1) => ({ cls := (.type "cell"), dict := none, data := (.cell (some (.ref 258))), slots := List.toArray [] } : Obj)) pzh
noncomputable def ko247 (P : Params) : Obj := id (fun (_ : (Str.ofString "z").length = 1) => ({ cls := (.type "tuple"), dict := none, data := (.seq (List.toArray [.none]) 0), slots := List.toArray [] } : Obj)) pzh
noncomputable def ko248 (P : Params) : Obj := id (fun (_ : (Str.ofString "z").length = 1) => ({ cls := (.type "tuple"), dict := none, data := (.seq (List.toArray [(.ref 242)]) 0), slots := List.toArray [] } : Obj)) pzh
noncomputable def ko254 (P : Params) : Obj := id (fun (_ : (Str.ofString "z").length = 1) => ({ cls := (.type "code"), dict := none, data := (.fields (List.toArray [(.str (Str.ofString "__init__") 503), (.str (Str.ofString "Name.__init__") 504), (.str (Str.ofString "/claim/cut.py") 505), (.int (93) 0), (.int (3) 0), (.int (0) 0), (.int (0) 0), (.int (11) 0), (.ref 249), (.bool true), (.int (181) 0), (.ref 250), .none, (.ref 251), (.ref 252), (.ref 253), (.int (511) 0), (.int (93) 0), (.str (Str.ofString "/claim/cut.py") 512)])), slots := List.toArray [] } : Obj)) pzh
noncomputable def ko255 (P : Params) : Obj := id (fun (_ : (Str.ofString "z").length = 1) => ({ cls := (.type "function"), dict := none, data := (.func { name := Str.ofString "__init__", qualname := Str.ofString "Name.__init__", params := fnP (stB 12 0), body := .stmts (fnB (stB 12 0)), scope := fnS (stB 12 0), globals := 3, closure := [(Str.ofString "__class__", 242)], defaults := (.ref 247), kwdefaults := .none, doc := .none, pyModule := (.str (Str.ofString "luaparser.astnodes") 257), annotations := none, code := (.ref 254), closureTuple := (.ref 248), builtins := 0 }), slots := List.toArray [] } : Obj)) pzh
noncomputable def ko257 (P : Params) : Obj := id (fun (_ : (Str.ofString "z").length = 1) => ({ cls := (.type "dict"), dict := none, data := (.dict (List.toArray [⟨PyData.keyHash P (Str.ofString "__module__"), (.str (Str.ofString "__module__") 498), (.str (Str.ofString "luaparser.astnodes") 257)⟩, ⟨PyData.keyHash P (Str.ofString "__firstlineno__"), (.str (Str.ofString "__firstlineno__") 502), (.int (91) 501)⟩, ⟨PyData.keyHash P (Str.ofString "__init__"), (.str (Str.ofString "__init__") 513), (.ref 255)⟩, ⟨PyData.keyHash P (Str.ofString "__static_attributes__"), (.str (Str.ofString "__static_attributes__") 516), (.ref 256)⟩, ⟨PyData.keyHash P (Str.ofString "__doc__"), (.str (Str.ofString "__doc__") 518), .none⟩]) 3), slots := List.toArray [] } : Obj)) pzh
noncomputable def ko258 (P : Params) : Obj := id (fun (_ : (Str.ofString "z").length = 1) => ({ cls := (.type "type"), dict := none, data := (.cls { name := Str.ofString "Name", bases := [(.ref 236)], mro := [(.ref 258), (.ref 236), (.ref 170), (.ref 124), (.type "object")], ns := 257, qualname := Str.ofString "Name", hasDict := true, slotNames := [], subclasses := [], abstract := false, collection := none, hasDel := false }), slots := List.toArray [(some (.ref 239)), none, (some (.str (Str.ofString "Name") 491)), (some (.str (Str.ofString "Name") 499)), (some (.builtin "object.__new__")), (some (.bool true))] } : Obj)) pzh
noncomputable def ko278 (P : Params) : Obj := id (fun (_ : (Str.ofString "z").length = 1) => ({ cls := (.type "cell"), dict := none, data := (.cell (some (.ref 293))), slots := List.toArray [] } : Obj)) pzh
noncomputable def ko283 (P : Params) : Obj := id (fun (_ : (Str.ofString "z").length = 1) => ({ cls := (.type "tuple"), dict := none, data := (.seq (List.toArray [(.ref 278)]) 0), slots := List.toArray [] } : Obj)) pzh
noncomputable def ko289 (P : Params) : Obj := id (fun (_ : (Str.ofString "z").length = 1) => ({ cls := (.type "code"), dict := none, data := (.fields (List.toArray [(.str (Str.ofString "__init__") 557), (.str (Str.ofString "Do.__init__") 558), (.str (Str.ofString "/claim/cut.py") 559), (.int (102) 0), (.int (2) 0), (.int (0) 0), (.int (0) 0), (.int (11) 0), (.ref 284), (.bool true), (.int (181) 0), (.ref 285), .none, (.ref 286), (.ref 287), (.ref 288), (.int (564) 0), (.int (102) 0), (.str (Str.ofString "/claim/cut.py") 565)])), slots := List.toArray [] } : Obj)) pzh
noncomputable def ko290 (P : Params) : Obj := id (fun (_ : (Str.ofString "z").length = 1) => ({ cls := (.type "function"), dict := none, data := (.func { name := Str.ofString "__init__", qualname := Str.ofString "Do.__init__", params := fnP (stB 14 0), body := .stmts (fnB (stB 14 0)), scope := fnS (stB 14 0), globals := 3, closure := [(Str.ofString "__class__", 278)], defaults := .none, kwdefaults := .none, doc := .none, pyModule := (.str (Str.ofString "luaparser.astnodes") 257), annotations := none, code := (.ref 289), closureTuple := (.ref 283), builtins := 0 }), slots := List.toArray [] } : Obj)) pzh
noncomputable def ko292 (P : Params) : Obj := id (fun (_ : (Str.ofString "z").length = 1) => ({ cls := (.type "dict"), dict := none, data := (.dict (List.toArray [⟨PyData.keyHash P (Str.ofString "__module__"), (.str (Str.ofString "__module__") 552), (.str (Str.ofString "luaparser.astnodes") 257)⟩, ⟨PyData.keyHash P (Str.ofString "__firstlineno__"), (.str (Str.ofString "__firstlineno__") 556), (.int (100) 555)⟩, ⟨PyData.keyHash P (Str.ofString "__init__"), (.str (Str.ofString "__init__") 566), (.ref 290)⟩, ⟨PyData.keyHash P (Str.ofString "__static_attributes__"), (.str (Str.ofString "__static_attributes__") 568), (.ref 291)⟩, ⟨PyData.keyHash P (Str.ofString "__doc__"), (.str (Str.ofString "__doc__") 570), .none⟩]) 3), slots := List.toArray [] } : Obj)) pzh
noncomputable def ko293 (P : Params) : Obj := id (fun (_ : (Str.ofString "z").length = 1) => ({ cls := (.type "type"), dict := none, data := (.cls { name := Str.ofString "Do", bases := [(.ref 182)], mro := [(.ref 293), (.ref 182), (.ref 170), (.ref 124), (.type "object")], ns := 292, qualname := Str.ofString "Do", hasDict := true, slotNames := [], subclasses := [], abstract := false, collection := none, hasDel := false }), slots := List.toArray [(some (.ref 275)), none, (some (.str (Str.ofString "Do") 545)), (some (.str (Str.ofString "Do") 553)), (some (.builtin "object.__new__")), (some (.bool true))] } : Obj)) pzh
noncomputable def ko320 (P : Params) : Obj := id (fun (_ : (Str.ofString "z").length = 1) => ({ cls := (.type "cell"), dict := none, data := (.cell (some (.ref 336))), slots := List.toArray [] } : Obj)) pzh
noncomputable def ko325 (P : Params) : Obj := id (fun (_ : (Str.ofString "z").length = 1) => ({ cls := (.type "tuple"), dict := none, data := (.seq (List.toArray [(.int (0) 617)]) 0), slots := List.toArray [] } : Obj)) pzh
noncomputable def ko326 (P : Params) : Obj := id (fun (_ : (Str.ofString "z").length = 1) => ({ cls := (.type "tuple"), dict := none, data := (.seq (List.toArray [(.ref 320)]) 0), slots := List.toArray [] } : Obj)) pzh
noncomputable def ko332 (P : Params) : Obj := id (fun (_ : (Str.ofString "z").length = 1) => ({ cls := (.type "code"), dict := none, data := (.fields (List.toArray [(.str (Str.ofString "__init__") 618), (.str (Str.ofString "Call.__init__") 619), (.str (Str.ofString "/claim/cut.py") 620), (.int (114) 0), (.int (4) 0), (.int (0) 0), (.int (0) 0), (.int (11) 0), (.ref 327), (.bool true), (.int (181) 0), (.ref 328), .none, (.ref 329), (.ref 330), (.ref 331), (.int (627) 0), (.int (114) 0), (.str (Str.ofString "/claim/cut.py") 628)])), slots := List.toArray [] } : Obj)) pzh
noncomputable def ko333 (P : Params) : Obj := id (fun (_ : (Str.ofString "z").length = 1) => ({ cls := (.type "function"), dict := none, data := (.func { name := Str.ofString "__init__", qualname := Str.ofString "Call.__init__", params := fnP (stB 16 0), body := .stmts (fnB (stB 16 0)), scope := fnS (stB 16 0), globals := 3, closure := [(Str.ofString "__class__", 320)], defaults := (.ref 325), kwdefaults := .none, doc := .none, pyModule := (.str (Str.ofString "luaparser.astnodes") 257), annotations := none, code := (.ref 332), closureTuple := (.ref 326), builtins := 0 }), slots := List.toArray [] } : Obj)) pzh
noncomputable def ko335 (P : Params) : Obj := id (fun (_ : (Str.ofString "z").length = 1) => ({ cls := (.type "dict"), dict := none, data := (.dict (List.toArray [⟨PyData.keyHash P (Str.ofString "__module__"), (.str (Str.ofString "__module__") 612), (.str (Str.ofString "luaparser.astnodes") 257)⟩, ⟨PyData.keyHash P (Str.ofString "__firstlineno__"), (.str (Str.ofString "__firstlineno__") 616), (.int (112) 615)⟩, ⟨PyData.keyHash P (Str.ofString "__init__"), (.str (Str.ofString "__init__") 629), (.ref 333)⟩, ⟨PyData.keyHash P (Str.ofString "__static_attributes__"), (.str (Str.ofString "__static_attributes__") 633), (.ref 334)⟩, ⟨PyData.keyHash P (Str.ofString "__doc__"), (.str (Str.ofString "__doc__") 635), .none⟩]) 3), slots := List.toArray [] } : Obj)) pzh
noncomputable def ko336 (P : Params) : Obj := id (fun (_ : (Str.ofString "z").length = 1) => ({ cls := (.type "type"), dict := none, data := (.cls { name := Str.ofString "Call", bases := [(.ref 182)], mro := [(.ref 336), (.ref 182), (.ref 170), (.ref 124), (.type "object")], ns := 335, qualname := Str.ofString "Call", hasDict := true, slotNames := [], subclasses := [], abstract := false, collection := none, hasDel := false }), slots := List.toArray [(some (.ref 317)), none, (some (.str (Str.ofString "Call") 605)), (some (.str (Str.ofString "Call") 613)), (some (.builtin "object.__new__")), (some (.bool true))] } : Obj)) pzh
noncomputable def ko356 (P : Params) : Obj := id (fun (_ : (Str.ofString "z").length = 1) => ({ cls := (.type "code"), dict := none, data := (.fields (List.toArray [(.str (Str.ofString "indent") 666), (.str (Str.ofString "indent") 667), (.str (Str.ofString "/claim/cut.py") 668), (.int (124) 0), (.int (2) 0), (.int (0) 0), (.int (0) 0), (.int (3) 0), (.ref 353), (.bool true), (.int (181) 0), (.ref 354), .none, .none, .none, (.ref 355), (.int (669) 0), (.int (124) 0), (.str (Str.ofString "/claim/cut.py") 670)])), slots := List.toArray [] } : Obj)) pzh
noncomputable def ko357 (P : Params) : Obj := id (fun (_ : (Str.ofString "z").length = 1) => ({ cls := (.type "function"), dict := none, data := (.func { name := Str.ofString "indent", qualname := Str.ofString "indent", params := fnP (stA 19), body := .stmts (fnB (stA 19)), scope := fnS (stA 19), globals := 3, closure := [], defaults := .none, kwdefaults := .none, doc := .none, pyModule := (.str (Str.ofString "luaparser.printers") 664), annotations := none, code := (.ref 356), closureTuple := .none, builtins := 0 }), slots := List.toArray [] } : Obj)) pzh
noncomputable def ko370 (P : Params) : Obj := id (fun (_ : (Str.ofString "z").length = 1) => ({ cls := (.type "code"), dict := none, data := (.fields (List.toArray [(.str (Str.ofString "__init__") 684), (.str (Str.ofString "LuaOutputVisitor.__init__") 685), (.str (Str.ofString "/claim/cut.py") 686), (.int (128) 0), (.int (2) 0), (.int (0) 0), (.int (0) 0), (.int (3) 0), (.ref 365), (.bool true), (.int (181) 0), (.ref 366), .none, (.ref 367), (.ref 368), (.ref 369), (.int (689) 0), (.int (128) 0), (.str (Str.ofString "/claim/cut.py") 690)])), slots := List.toArray [] } : Obj)) pzh
noncomputable def ko371 (P : Params) : Obj := id (fun (_ : (Str.ofString "z").length = 1) => ({ cls := (.type "function"), dict := none, data := (.func { name := Str.ofString "__init__", qualname := Str.ofString "LuaOutputVisitor.__init__", params := fnP (stB 20 0), body := .stmts (fnB (stB 20 0)), scope := fnS (stB 20 0), globals := 3, closure := [], defaults := .none, kwdefaults := .none, doc := .none, pyModule := (.str (Str.ofString "luaparser.printers") 664), annotations := none, code := (.ref 370), closureTuple := .none, builtins := 0 }), slots := List.toArray [] } : Obj)) pzh
noncomputable def ko375 (P : Params) : Obj := id (fun (_ : (Str.ofString "z").length = 1) => ({ cls := (.type "code"), dict := none, data := (.fields (List.toArray [(.str (Str.ofString "do_visit") 692), (.str (Str.ofString "LuaOutputVisitor.do_visit") 693), (.str (Str.ofString "/claim/cut.py") 694), (.int (132) 0), (.int (2) 0), (.int (0) 0), (.int (0) 0), (.int (3) 0), (.ref 372), (.bool true), (.int (181) 0), (.ref 373), .none, .none, .none, (.ref 374), (.int (695) 0), (.int (132) 0), (.str (Str.ofString "/claim/cut.py") 696)])), slots := List.toArray [] } : Obj)) pzh
noncomputable def ko376 (P : Params) : Obj := id (fun (_ : (Str.ofString "z").length = 1) => ({ cls := (.type "function"), dict := none, data := (.func { name := Str.ofString "do_visit", qualname := Str.ofString "LuaOutputVisitor.do_visit", params := fnP (stB 20 1), body := .stmts (fnB (stB 20 1)), scope := fnS (stB 20 1), globals := 3, closure := [], defaults := .none, kwdefaults := .none, doc := .none, pyModule := (.str (Str.ofString "luaparser.printers") 664), annotations := none, code := (.ref 375), closureTuple := .none, builtins := 0 }), slots := List.toArray [] } : Obj)) pzh
noncomputable def ko382 (P : Params) : Obj := id (fun (_ : (Str.ofString "z").length = 1) => ({ cls := (.type "code"), dict := none, data := (.fields (List.toArray [(.str (Str.ofString "visit") 698), (.str (Str.ofString "LuaOutputVisitor.visit") 699), (.str (Str.ofString "/claim/cut.py") 700), (.int (157) 0), (.int (2) 0), (.int (0) 0), (.int (0) 0), (.int (3) 0), (.ref 377), (.bool true), (.int (181) 0), (.ref 378), .none, (.ref 379), (.ref 380), (.ref 381), (.int (703) 0), (.int (157) 0), (.str (Str.ofString "/claim/cut.py") 704)])), slots := List.toArray [] } : Obj)) pzh
noncomputable def ko383 (P : Params) : Obj := id (fun (_ : (Str.ofString "z").length = 1) => ({ cls := (.type "function"), dict := none, data := (.func { name := Str.ofString "visit", qualname := Str.ofString "LuaOutputVisitor.visit", params := fnP (stB 20 2), body := .stmts (fnB (stB 20 2)), scope := fnS (stB 20 2), globals := 3, closure := [], defaults := .none, kwdefaults := .none, doc := .none, pyModule := (.str (Str.ofString "luaparser.printers") 664), annotations := none, code := (.ref 382), closureTuple := .none, builtins := 0 }), slots := List.toArray [] } : Obj)) pzh
noncomputable def ko389 (P : Params) : Obj := id (fun (_ : (Str.ofString "z").length = 1) => ({ cls := (.type "code"), dict := none, data := (.fields (List.toArray [(.str (Str.ofString "visit_Chunk") 706), (.str (Str.ofString "LuaOutputVisitor.visit_Chunk") 707), (.str (Str.ofString "/claim/cut.py") 708), (.int (160) 0), (.int (2) 0), (.int (0) 0), (.int (0) 0), (.int (3) 0), (.ref 384), (.bool true), (.int (181) 0), (.ref 385), .none, (.ref 386), (.ref 387), (.ref 388), (.int (711) 0), (.int (160) 0), (.str (Str.ofString "/claim/cut.py") 712)])), slots := List.toArray [] } : Obj)) pzh
noncomputable def ko390 (P : Params) : Obj := id (fun (_ : (Str.ofString "z").length = 1) => ({ cls := (.type "function"), dict := none, data := (.func { name := Str.ofString "visit_Chunk", qualname := Str.ofString "LuaOutputVisitor.visit_Chunk", params := fnP (stB 20 3), body := .stmts (fnB (stB 20 3)), scope := fnS (stB 20 3), globals := 3, closure := [], defaults := .none, kwdefaults := .none, doc := .none, pyModule := (.str (Str.ofString "luaparser.printers") 664), annotations := none, code := (.ref 389), closureTuple := .none, builtins := 0 }), slots := List.toArray [] } : Obj)) pzh
noncomputable def ko394 (P : Params) : Obj := id (fun (_ : (Str.ofString "z").length = 1) => ({ cls := (.type "code"), dict := none, data := (.fields (List.toArray [(.str (Str.ofString "visit_Block") 714), (.str (Str.ofString "LuaOutputVisitor.visit_Block") 715), (.str (Str.ofString "/claim/cut.py") 716), (.int (163) 0), (.int (2) 0), (.int (0) 0), (.int (0) 0), (.int (3) 0), (.ref 391), (.bool true), (.int (181) 0), (.ref 392), .none, .none, .none, (.ref 393), (.int (717) 0), (.int (163) 0), (.str (Str.ofString "/claim/cut.py") 718)])), slots := List.toArray [] } : Obj)) pzh
noncomputable def ko395 (P : Params) : Obj := id (fun (_ : (Str.ofString "z").length = 1) => ({ cls := (.type "function"), dict := none, data := (.func { name := Str.ofString "visit_Block", qualname := Str.ofString "LuaOutputVisitor.visit_Block", params := fnP (stB 20 4), body := .stmts (fnB (stB 20 4)), scope := fnS (stB 20 4), globals := 3, closure := [], defaults := .none, kwdefaults := .none, doc := .none, pyModule := (.str (Str.ofString "luaparser.printers") 664), annotations := none, code := (.ref 394), closureTuple := .none, builtins := 0 }), slots := List.toArray [] } : Obj)) pzh
noncomputable def ko401 (P : Params) : Obj := id (fun (_ : (Str.ofString "z").length = 1) => ({ cls := (.type "code"), dict := none, data := (.fields (List.toArray [(.str (Str.ofString "visit_str") 720), (.str (Str.ofString "LuaOutputVisitor.visit_str") 721), (.str (Str.ofString "/claim/cut.py") 722), (.int (169) 0), (.int (2) 0), (.int (0) 0), (.int (0) 0), (.int (3) 0), (.ref 396), (.bool true), (.int (181) 0), (.ref 397), .none, (.ref 398), (.ref 399), (.ref 400), (.int (725) 0), (.int (169) 0), (.str (Str.ofString "/claim/cut.py") 726)])), slots := List.toArray [] } : Obj)) pzh
noncomputable def ko402 (P : Params) : Obj := id (fun (_ : (Str.ofString "z").length = 1) => ({ cls := (.type "function"), dict := none, data := (.func { name := Str.ofString "visit_str", qualname := Str.ofString "LuaOutputVisitor.visit_str", params := fnP (stB 20 5), body := .stmts (fnB (stB 20 5)), scope := fnS (stB 20 5), globals := 3, closure := [], defaults := .none, kwdefaults := .none, doc := .none, pyModule := (.str (Str.ofString "luaparser.printers") 664), annotations := none, code := (.ref 401), closureTuple := .none, builtins := 0 }), slots := List.toArray [] } : Obj)) pzh
noncomputable def ko420 (P : Params) : Obj := id (fun (_ : (Str.ofString "z").length = 1) => ({ cls := (.type "code"), dict := none, data := (.fields (List.toArray [(.str (Str.ofString "visit_list") 744), (.str (Str.ofString "LuaOutputVisitor.visit_list") 745), (.str (Str.ofString "/claim/cut.py") 746), (.int (178) 0), (.int (2) 0), (.int (0) 0), (.int (0) 0), (.int (3) 0), (.ref 417), (.bool true), (.int (181) 0), (.ref 418), .none, .none, .none, (.ref 419), (.int (747) 0), (.int (178) 0), (.str (Str.ofString "/claim/cut.py") 748)])), slots := List.toArray [] } : Obj)) pzh
noncomputable def ko421 (P : Params) : Obj := id (fun (_ : (Str.ofString "z").length = 1) => ({ cls := (.type "function"), dict := none, data := (.func { name := Str.ofString "visit_list", qualname := Str.ofString "LuaOutputVisitor.visit_list", params := fnP (stB 20 8), body := .stmts (fnB (stB 20 8)), scope := fnS (stB 20 8), globals := 3, closure := [], defaults := .none, kwdefaults := .none, doc := .none, pyModule := (.str (Str.ofString "luaparser.printers") 664), annotations := none, code := (.ref 420), closureTuple := .none, builtins := 0 }), slots := List.toArray [] } : Obj)) pzh
noncomputable def ko455 (P : Params) : Obj := id (fun (_ : (Str.ofString "z").length = 1) => ({ cls := (.type "code"), dict := none, data := (.fields (List.toArray [(.str (Str.ofString "visit_Do") 783), (.str (Str.ofString "LuaOutputVisitor.visit_Do") 784), (.str (Str.ofString "/claim/cut.py") 785), (.int (196) 0), (.int (2) 0), (.int (0) 0), (.int (0) 0), (.int (3) 0), (.ref 450), (.bool true), (.int (181) 0), (.ref 451), .none, (.ref 452), (.ref 453), (.ref 454), (.int (788) 0), (.int (196) 0), (.str (Str.ofString "/claim/cut.py") 789)])), slots := List.toArray [] } : Obj)) pzh
noncomputable def ko456 (P : Params) : Obj := id (fun (_ : (Str.ofString "z").length = 1) => ({ cls := (.type "function"), dict := none, data := (.func { name := Str.ofString "visit_Do", qualname := Str.ofString "LuaOutputVisitor.visit_Do", params := fnP (stB 20 13), body := .stmts (fnB (stB 20 13)), scope := fnS (stB 20 13), globals := 3, closure := [], defaults := .none, kwdefaults := .none, doc := .none, pyModule := (.str (Str.ofString "luaparser.printers") 664), annotations := none, code := (.ref 455), closureTuple := .none, builtins := 0 }), slots := List.toArray [] } : Obj)) pzh
noncomputable def ko518 (P : Params) : Obj := id (fun (_ : (Str.ofString "z").length = 1) => ({ cls := (.type "code"), dict := none, data := (.fields (List.toArray [(.str (Str.ofString "visit_Call") 859), (.str (Str.ofString "LuaOutputVisitor.visit_Call") 860), (.str (Str.ofString "/claim/cut.py") 861), (.int (241) 0), (.int (2) 0), (.int (0) 0), (.int (0) 0), (.int (3) 0), (.ref 513), (.bool true), (.int (181) 0), (.ref 514), .none, (.ref 515), (.ref 516), (.ref 517), (.int (864) 0), (.int (241) 0), (.str (Str.ofString "/claim/cut.py") 865)])), slots := List.toArray [] } : Obj)) pzh
noncomputable def ko519 (P : Params) : Obj := id (fun (_ : (Str.ofString "z").length = 1) => ({ cls := (.type "function"), dict := none, data := (.func { name := Str.ofString "visit_Call", qualname := Str.ofString "LuaOutputVisitor.visit_Call", params := fnP (stB 20 22), body := .stmts (fnB (stB 20 22)), scope := fnS (stB 20 22), globals := 3, closure := [], defaults := .none, kwdefaults := .none, doc := .none, pyModule := (.str (Str.ofString "luaparser.printers") 664), annotations := none, code := (.ref 518), closureTuple := .none, builtins := 0 }), slots := List.toArray [] } : Obj)) pzh
noncomputable def ko791 (P : Params) : Obj := id (fun (_ : (Str.ofString "z").length = 1) => ({ cls := (.type "code"), dict := none, data := (.fields (List.toArray [(.str (Str.ofString "visit_Name") 1174), (.str (Str.ofString "LuaOutputVisitor.visit_Name") 1175), (.str (Str.ofString "/claim/cut.py") 1176), (.int (372) 0), (.int (2) 0), (.int (0) 0), (.int (0) 0), (.int (3) 0), (.ref 786), (.bool true), (.int (181) 0), (.ref 787), .none, (.ref 788), (.ref 789), (.ref 790), (.int (1179) 0), (.int (372) 0), (.str (Str.ofString "/claim/cut.py") 1180)])), slots := List.toArray [] } : Obj)) pzh
noncomputable def ko792 (P : Params) : Obj := id (fun (_ : (Str.ofString "z").length = 1) => ({ cls := (.type "function"), dict := none, data := (.func { name := Str.ofString "visit_Name", qualname := Str.ofString "LuaOutputVisitor.visit_Name", params := fnP (stB 20 61), body := .stmts (fnB (stB 20 61)), scope := fnS (stB 20 61), globals := 3, closure := [], defaults := .none, kwdefaults := .none, doc := .none, pyModule := (.str (Str.ofString "luaparser.printers") 664), annotations := none, code := (.ref 791), closureTuple := .none, builtins := 0 }), slots := List.toArray [] } : Obj)) pzh
noncomputable def ko822 (P : Params) : Obj := id (fun (_ : (Str.ofString "z").length = 1) => ({ cls := (.type "dict"), dict := none, data := (.dict (List.toArray [⟨PyData.keyHash P (Str.ofString "__module__"), (.str (Str.ofString "__module__") 679), (.str (Str.ofString "luaparser.printers") 664)⟩, ⟨PyData.keyHash P (Str.ofString "__firstlineno__"), (.str (Str.ofString "__firstlineno__") 683), (.int (126) 682)⟩, ⟨PyData.keyHash P (Str.ofString "__init__"), (.str (Str.ofString "__init__") 691), (.ref 371)⟩, ⟨PyData.keyHash P (Str.ofString "do_visit"), (.str (Str.ofString "do_visit") 697), (.ref 376)⟩, ⟨PyData.keyHash P (Str.ofString "visit"), (.str (Str.ofString "visit") 705), (.ref 383)⟩, ⟨PyData.keyHash P (Str.ofString "visit_Chunk"), (.str (Str.ofString "visit_Chunk") 713), (.ref 390)⟩, ⟨PyData.keyHash P (Str.ofString "visit_Block"), (.str (Str.ofString "visit_Block") 719), (.ref 395)⟩, ⟨PyData.keyHash P (Str.ofString "visit_str"), (.str (Str.ofString "visit_str") 727), (.ref 402)⟩, ⟨PyData.keyHash P (Str.ofString "visit_float"), (.str (Str.ofString "visit_float") 735), (.ref 409)⟩, ⟨PyData.keyHash P (Str.ofString "visit_int"), (.str (Str.ofString "visit_int") 743), (.ref 416)⟩, ⟨PyData.keyHash P (Str.ofString "visit_list"), (.str (Str.ofString "visit_list") 749), (.ref 421)⟩, ⟨PyData.keyHash P (Str.ofString "visit_NoneType"), (.str (Str.ofString "visit_NoneType") 757), (.ref 428)⟩, ⟨PyData.keyHash P (Str.ofString "visit_Assign"), (.str (Str.ofString "visit_Assign") 765), (.ref 435)⟩, ⟨PyData.keyHash P (Str.ofString "visit_LocalAssign"), (.str (Str.ofString "visit_LocalAssign") 774), (.ref 442)⟩, ⟨PyData.keyHash P (Str.ofString "visit_While"), (.str (Str.ofString "visit_While") 782), (.ref 449)⟩, ⟨PyData.keyHash P (Str.ofString "visit_Do"), (.str (Str.ofString "visit_Do") 790), (.ref 456)⟩, ⟨PyData.keyHash P (Str.ofString "visit_If"), (.str (Str.ofString "visit_If") 799), (.ref 463)⟩, ⟨PyData.keyHash P (Str.ofString "visit_ElseIf"), (.str (Str.ofString "visit_ElseIf") 808), (.ref 470)⟩, ⟨PyData.keyHash P (Str.ofString "visit_Label"), (.str (Str.ofString "visit_Label") 816), (.ref 477)⟩, ⟨PyData.keyHash P (Str.ofString "visit_Goto"), (.str (Str.ofString "visit_Goto") 824), (.ref 484)⟩, ⟨PyData.keyHash P (Str.ofString "visit_Break"), (.str (Str.ofString "visit_Break") 832), (.ref 491)⟩, ⟨PyData.keyHash P (Str.ofString "visit_Return"), (.str (Str.ofString "visit_Return") 841), (.ref 498)⟩, ⟨PyData.keyHash P (Str.ofString "visit_Fornum"), (.str (Str.ofString "visit_Fornum") 850), (.ref 505)⟩, ⟨PyData.keyHash P (Str.ofString "visit_Forin"), (.str (Str.ofString "visit_Forin") 858), (.ref 512)⟩, ⟨PyData.keyHash P (Str.ofString "visit_Call"), (.str (Str.ofString "visit_Call") 866), (.ref 519)⟩, ⟨PyData.keyHash P (Str.ofString "visit_Invoke"), (.str (Str.ofString "visit_Invoke") 874), (.ref 526)⟩, ⟨PyData.keyHash P (Str.ofString "visit_Function"), (.str (Str.ofString "visit_Function") 882), (.ref 533)⟩, ⟨PyData.keyHash P (Str.ofString "visit_LocalFunction"), (.str (Str.ofString "visit_LocalFunction") 890), (.ref 540)⟩, ⟨PyData.keyHash P (Str.ofString "visit_Method"), (.str (Str.ofString "visit_Method") 898), (.ref 547)⟩, ⟨PyData.keyHash P (Str.ofString "visit_Nil"), (.str (Str.ofString "visit_Nil") 906), (.ref 554)⟩, ⟨PyData.keyHash P (Str.ofString "visit_TrueExpr"), (.str (Str.ofString "visit_TrueExpr") 914), (.ref 561)⟩, ⟨PyData.keyHash P (Str.ofString "visit_FalseExpr"), (.str (Str.ofString "visit_FalseExpr") 922), (.ref 568)⟩, ⟨PyData.keyHash P (Str.ofString "visit_Number"), (.str (Str.ofString "visit_Number") 930), (.ref 575)⟩, ⟨PyData.keyHash P (Str.ofString "visit_String"), (.str (Str.ofString "visit_String") 938), (.ref 582)⟩, ⟨PyData.keyHash P (Str.ofString "visit_Table"), (.str (Str.ofString "visit_Table") 948), (.ref 589)⟩, ⟨PyData.keyHash P (Str.ofString "visit_Field"), (.str (Str.ofString "visit_Field") 957), (.ref 596)⟩, ⟨PyData.keyHash P (Str.ofString "visit_Dots"), (.str (Str.ofString "visit_Dots") 965), (.ref 603)⟩, ⟨PyData.keyHash P (Str.ofString "visit_AnonymousFunction"), (.str (Str.ofString "visit_AnonymousFunction") 973), (.ref 610)⟩, ⟨PyData.keyHash P (Str.ofString "visit_AddOp"), (.str (Str.ofString "visit_AddOp") 981), (.ref 617)⟩, ⟨PyData.keyHash P (Str.ofString "visit_SubOp"), (.str (Str.ofString "visit_SubOp") 989), (.ref 624)⟩, ⟨PyData.keyHash P (Str.ofString "visit_MultOp"), (.str (Str.ofString "visit_MultOp") 997), (.ref 631)⟩, ⟨PyData.keyHash P (Str.ofString "visit_FloatDivOp"), (.str (Str.ofString "visit_FloatDivOp") 1005), (.ref 638)⟩, ⟨PyData.keyHash P (Str.ofString "visit_FloorDivOp"), (.str (Str.ofString "visit_FloorDivOp") 1013), (.ref 645)⟩, ⟨PyData.keyHash P (Str.ofString "visit_ModOp"), (.str (Str.ofString "visit_ModOp") 1021), (.ref 652)⟩, ⟨PyData.keyHash P (Str.ofString "visit_ExpoOp"), (.str (Str.ofString "visit_ExpoOp") 1029), (.ref 659)⟩, ⟨PyData.keyHash P (Str.ofString "visit_BAndOp"), (.str (Str.ofString "visit_BAndOp") 1037), (.ref 666)⟩, ⟨PyData.keyHash P (Str.ofString "visit_BOrOp"), (.str (Str.ofString "visit_BOrOp") 1045), (.ref 673)⟩, ⟨PyData.keyHash P (Str.ofString "visit_BXorOp"), (.str (Str.ofString "visit_BXorOp") 1053), (.ref 680)⟩, ⟨PyData.keyHash P (Str.ofString "visit_BShiftROp"), (.str (Str.ofString "visit_BShiftROp") 1061), (.ref 687)⟩, ⟨PyData.keyHash P (Str.ofString "visit_BShiftLOp"), (.str (Str.ofString "visit_BShiftLOp") 1069), (.ref 694)⟩, ⟨PyData.keyHash P (Str.ofString "visit_LessThanOp"), (.str (Str.ofString "visit_LessThanOp") 1077), (.ref 701)⟩, ⟨PyData.keyHash P (Str.ofString "visit_GreaterThanOp"), (.str (Str.ofString "visit_GreaterThanOp") 1085), (.ref 708)⟩, ⟨PyData.keyHash P (Str.ofString "visit_LessOrEqThanOp"), (.str (Str.ofString "visit_LessOrEqThanOp") 1093), (.ref 715)⟩, ⟨PyData.keyHash P (Str.ofString "visit_GreaterOrEqThanOp"), (.str (Str.ofString "visit_GreaterOrEqThanOp") 1101), (.ref 722)⟩, ⟨PyData.keyHash P (Str.ofString "visit_EqToOp"), (.str (Str.ofString "visit_EqToOp") 1109), (.ref 729)⟩, ⟨PyData.keyHash P (Str.ofString "visit_NotEqToOp"), (.str (Str.ofString "visit_NotEqToOp") 1117), (.ref 736)⟩, ⟨PyData.keyHash P (Str.ofString "visit_AndLoOp"), (.str (Str.ofString "visit_AndLoOp") 1125), (.ref 743)⟩, ⟨PyData.keyHash P (Str.ofString "visit_OrLoOp"), (.str (Str.ofString "visit_OrLoOp") 1133), (.ref 750)⟩, ⟨PyData.keyHash P (Str.ofString "visit_Concat"), (.str (Str.ofString "visit_Concat") 1141), (.ref 757)⟩, ⟨PyData.keyHash P (Str.ofString "visit_UMinusOp"), (.str (Str.ofString "visit_UMinusOp") 1149), (.ref 764)⟩, ⟨PyData.keyHash P (Str.ofString "visit_UBNotOp"), (.str (Str.ofString "visit_UBNotOp") 1157), (.ref 771)⟩, ⟨PyData.keyHash P (Str.ofString "visit_ULNotOp"), (.str (Str.ofString "visit_ULNotOp") 1165), (.ref 778)⟩, ⟨PyData.keyHash P (Str.ofString "visit_ULengthOP"), (.str (Str.ofString "visit_ULengthOP") 1173), (.ref 785)⟩, ⟨PyData.keyHash P (Str.ofString "visit_Name"), (.str (Str.ofString "visit_Name") 1181), (.ref 792)⟩, ⟨PyData.keyHash P (Str.ofString "visit_Index"), (.str (Str.ofString "visit_Index") 1189), (.ref 799)⟩, ⟨PyData.keyHash P (Str.ofString "visit_Varargs"), (.str (Str.ofString "visit_Varargs") 1197), (.ref 806)⟩, ⟨PyData.keyHash P (Str.ofString "visit_Repeat"), (.str (Str.ofString "visit_Repeat") 1205), (.ref 813)⟩, ⟨PyData.keyHash P (Str.ofString "visit_SemiColon"), (.str (Str.ofString "visit_SemiColon") 1213), (.ref 820)⟩, ⟨PyData.keyHash P (Str.ofString "__static_attributes__"), (.str (Str.ofString "__static_attributes__") 1216), (.ref 821)⟩, ⟨PyData.keyHash P (Str.ofString "__dict__"), (.str (Str.ofString "__dict__") 1218), (.ref 824)⟩, ⟨PyData.keyHash P (Str.ofString "__weakref__"), (.str (Str.ofString "__weakref__") 1220), (.ref 825)⟩, ⟨PyData.keyHash P (Str.ofString "__doc__"), (.str (Str.ofString "__doc__") 1221), .none⟩]) 4), slots := List.toArray [] } : Obj)) pzh
noncomputable def ko823 (P : Params) : Obj := id (fun (_ : (Str.ofString "z").length = 1) => ({ cls := (.type "type"), dict := none, data := (.cls { name := Str.ofString "LuaOutputVisitor", bases := [(.type "object")], mro := [(.ref 823), (.type "object")], ns := 822, qualname := Str.ofString "LuaOutputVisitor", hasDict := true, slotNames := [], subclasses := [], abstract := false, collection := none, hasDel := false }), slots := List.toArray [none, none, (some (.str (Str.ofString "LuaOutputVisitor") 672)), (some (.str (Str.ofString "LuaOutputVisitor") 680)), (some (.builtin "object.__new__")), (some (.bool true))] } : Obj)) pzh
noncomputable def ko828 (P : Params) : Obj := id (fun (_ : (Str.ofString "z").length = 1) => ({ cls := (.type "tuple"), dict := none, data := (.seq (List.toArray [(.int (4) 1226)]) 0), slots := List.toArray [] } : Obj)) pzh
noncomputable def ko834 (P : Params) : Obj := id (fun (_ : (Str.ofString "z").length = 1) => ({ cls := (.type "code"), dict := none, data := (.fields (List.toArray [(.str (Str.ofString "to_lua_source") 1227), (.str (Str.ofString "to_lua_source") 1228), (.str (Str.ofString "/claim/cut.py") 1229), (.int (390) 0), (.int (2) 0), (.int (0) 0), (.int (0) 0), (.int (3) 0), (.ref 829), (.bool true), (.int (181) 0), (.ref 830), .none, (.ref 831), (.ref 832), (.ref 833), (.int (1232) 0), (.int (390) 0), (.str (Str.ofString "/claim/cut.py") 1233)])), slots := List.toArray [] } : Obj)) pzh
noncomputable def ko835 (P : Params) : Obj := id (fun (_ : (Str.ofString "z").length = 1) => ({ cls := (.type "function"), dict := none, data := (.func { name := Str.ofString "to_lua_source", qualname := Str.ofString "to_lua_source", params := fnP (stA 22), body := .stmts (fnB (stA 22)), scope := fnS (stA 22), globals := 3, closure := [], defaults := (.ref 828), kwdefaults := .none, doc := .none, pyModule := (.str (Str.ofString "luaparser.ast") 1224), annotations := none, code := (.ref 834), closureTuple := .none, builtins := 0 }), slots := List.toArray [] } : Obj)) pzh
noncomputable def ko841 (P : Params) : Obj := id (fun (_ : (Str.ofString "z").length = 1) => ({ cls := (.type "code"), dict := none, data := (.fields (List.toArray [(.str (Str.ofString "_law_draw") 1237), (.str (Str.ofString "_law_draw") 1238), (.str (Str.ofString "/claim/cut.py") 1239), (.int (393) 0), (.int (2) 0), (.int (0) 0), (.int (0) 0), (.int (3) 0), (.ref 836), (.bool true), (.int (181) 0), (.ref 837), .none, (.ref 838), (.ref 839), (.ref 840), (.int (1245) 0), (.int (393) 0), (.str (Str.ofString "/claim/cut.py") 1246)])), slots := List.toArray [] } : Obj)) pzh
noncomputable def ko842 (P : Params) : Obj := id (fun (_ : (Str.ofString "z").length = 1) => ({ cls := (.type "function"), dict := none, data := (.func { name := Str.ofString "_law_draw", qualname := Str.ofString "_law_draw", params := fnP (stA 24), body := .stmts (fnB (stA 24)), scope := fnS (stA 24), globals := 3, closure := [], defaults := .none, kwdefaults := .none, doc := .none, pyModule := (.str (Str.ofString "law_ez0174_01") 1235), annotations := none, code := (.ref 841), closureTuple := .none, builtins := 0 }), slots := List.toArray [] } : Obj)) pzh
noncomputable def ko848 (P : Params) : Obj := id (fun (_ : (Str.ofString "z").length = 1) => ({ cls := (.type "code"), dict := none, data := (.fields (List.toArray [(.str (Str.ofString "_law_sign") 1248), (.str (Str.ofString "_law_sign") 1249), (.str (Str.ofString "/claim/cut.py") 1250), (.int (400) 0), (.int (2) 0), (.int (0) 0), (.int (0) 0), (.int (3) 0), (.ref 843), (.bool true), (.int (181) 0), (.ref 844), .none, (.ref 845), (.ref 846), (.ref 847), (.int (1253) 0), (.int (400) 0), (.str (Str.ofString "/claim/cut.py") 1254)])), slots := List.toArray [] } : Obj)) pzh
noncomputable def ko849 (P : Params) : Obj := id (fun (_ : (Str.ofString "z").length = 1) => ({ cls := (.type "function"), dict := none, data := (.func { name := Str.ofString "_law_sign", qualname := Str.ofString "_law_sign", params := fnP (stA 25), body := .stmts (fnB (stA 25)), scope := fnS (stA 25), globals := 3, closure := [], defaults := .none, kwdefaults := .none, doc := .none, pyModule := (.str (Str.ofString "law_ez0174_01") 1235), annotations := none, code := (.ref 848), closureTuple := .none, builtins := 0 }), slots := List.toArray [] } : Obj)) pzh
noncomputable def ko855 (P : Params) : Obj := id (fun (_ : (Str.ofString "z").length = 1) => ({ cls := (.type "code"), dict := none, data := (.fields (List.toArray [(.str (Str.ofString "_law_remarks") 1256), (.str (Str.ofString "_law_remarks") 1257), (.str (Str.ofString "/claim/cut.py") 1258), (.int (403) 0), (.int (5) 0), (.int (0) 0), (.int (0) 0), (.int (3) 0), (.ref 850), (.bool true), (.int (181) 0), (.ref 851), .none, (.ref 852), (.ref 853), (.ref 854), (.int (1267) 0), (.int (403) 0), (.str (Str.ofString "/claim/cut.py") 1268)])), slots := List.toArray [] } : Obj)) pzh
noncomputable def ko856 (P : Params) : Obj := id (fun (_ : (Str.ofString "z").length = 1) => ({ cls := (.type "function"), dict := none, data := (.func { name := Str.ofString "_law_remarks", qualname := Str.ofString "_law_remarks", params := fnP (stA 26), body := .stmts (fnB (stA 26)), scope := fnS (stA 26), globals := 3, closure := [], defaults := .none, kwdefaults := .none, doc := .none, pyModule := (.str (Str.ofString "law_ez0174_01") 1235), annotations := none, code := (.ref 855), closureTuple := .none, builtins := 0 }), slots := List.toArray [] } : Obj)) pzh
noncomputable def ko862 (P : Params) : Obj := id (fun (_ : (Str.ofString "z").length = 1) => ({ cls := (.type "code"), dict := none, data := (.fields (List.toArray [(.str (Str.ofString "_law_behind") 1270), (.str (Str.ofString "_law_behind") 1271), (.str (Str.ofString "/claim/cut.py") 1272), (.int (413) 0), (.int (5) 0), (.int (0) 0), (.int (0) 0), (.int (3) 0), (.ref 857), (.bool true), (.int (181) 0), (.ref 858), .none, (.ref 859), (.ref 860), (.ref 861), (.int (1279) 0), (.int (413) 0), (.str (Str.ofString "/claim/cut.py") 1280)])), slots := List.toArray [] } : Obj)) pzh
noncomputable def ko863 (P : Params) : Obj := id (fun (_ : (Str.ofString "z").length = 1) => ({ cls := (.type "function"), dict := none, data := (.func { name := Str.ofString "_law_behind", qualname := Str.ofString "_law_behind", params := fnP (stA 27), body := .stmts (fnB (stA 27)), scope := fnS (stA 27), globals := 3, closure := [], defaults := .none, kwdefaults := .none, doc := .none, pyModule := (.str (Str.ofString "law_ez0174_01") 1235), annotations := none, code := (.ref 862), closureTuple := .none, builtins := 0 }), slots := List.toArray [] } : Obj)) pzh
noncomputable def K0 (P : Params) : Frag := [(nat_lit 2, ko2 P), (nat_lit 3, ko3 P), (nat_lit 27, ko27 P), (nat_lit 28, ko28 P), (nat_lit 36, ko36 P), (nat_lit 37, ko37 P), (nat_lit 43, ko43 P), (nat_lit 44, ko44 P), (nat_lit 50, ko50 P), (nat_lit 51, ko51 P), (nat_lit 53, ko53 P), (nat_lit 54, ko54 P), (nat_lit 66, ko66 P), (nat_lit 72, ko72 P), (nat_lit 73, ko73 P), (nat_lit 87, ko87 P), (nat_lit 88, ko88 P), (nat_lit 89, ko89 P), (nat_lit 95, ko95 P), (nat_lit 96, ko96 P), (nat_lit 97, ko97 P), (nat_lit 123, ko123 P), (nat_lit 124, ko124 P), (nat_lit 132, ko132 P), (nat_lit 137, ko137 P), (nat_lit 138, ko138 P), (nat_lit 144, ko144 P), (nat_lit 145, ko145 P), (nat_lit 147, ko147 P), (nat_lit 148, ko148 P), (nat_lit 154, ko154 P), (nat_lit 159, ko159 P), (nat_lit 160, ko160 P), (nat_lit 166, ko166 P), (nat_lit 167, ko167 P), (nat_lit 169, ko169 P), (nat_lit 170, ko170 P), (nat_lit 181, ko181 P), (nat_lit 182, ko182 P), (nat_lit 188, ko188 P), (nat_lit 193, ko193 P), (nat_lit 199, ko199 P), (nat_lit 200, ko200 P), (nat_lit 202, ko202 P), (nat_lit 203, ko203 P), (nat_lit 209, ko209 P), (nat_lit 214, ko214 P), (nat_lit 220, ko220 P), (nat_lit 221, ko221 P), (nat_lit 223, ko223 P), (nat_lit 224, ko224 P), (nat_lit 235, ko235 P), (nat_lit 236, ko236 P), (nat_lit 242, ko242 P), (nat_lit 247, ko247 P), (nat_lit 248, ko248 P), (nat_lit 254, ko254 P), (nat_lit 255, ko255 P), (nat_lit 257, ko257 P), (nat_lit 258, ko258 P), (nat_lit 278, ko278 P), (nat_lit 283, ko283 P), (nat_lit 289, ko289 P), (nat_lit 290, ko290 P), (nat_lit 292, ko292 P), (nat_lit 293, ko293 P), (nat_lit 320, ko320 P), (nat_lit 325, ko325 P), (nat_lit 326, ko326 P), (nat_lit 332, ko332 P), (nat_lit 333, ko333 P), (nat_lit 335, ko335 P), (nat_lit 336, ko336 P), (nat_lit 356, ko356 P), (nat_lit 357, ko357 P), (nat_lit 370, ko370 P), (nat_lit 371, ko371 P), (nat_lit 375, ko375 P), (nat_lit 376, ko376 P), (nat_lit 382, ko382 P), (nat_lit 383, ko383 P), (nat_lit 389, ko389 P), (nat_lit 390, ko390 P), (nat_lit 394, ko394 P), (nat_lit 395, ko395 P), (nat_lit 401, ko401 P), (nat_lit 402, ko402 P), (nat_lit 420, ko420 P), (nat_lit 421, ko421 P), (nat_lit 455, ko455 P), (nat_lit 456, ko456 P), (nat_lit 518, ko518 P), (nat_lit 519, ko519 P), (nat_lit 791, ko791 P), (nat_lit 792, ko792 P), (nat_lit 822, ko822 P), (nat_lit 823, ko823 P), (nat_lit 828, ko828 P), (nat_lit 834, ko834 P), (nat_lit 835, ko835 P), (nat_lit 841, ko841 P), (nat_lit 842, ko842 P), (nat_lit 848, ko848 P), (nat_lit 849, ko849 P), (nat_lit 855, ko855 P), (nat_lit 856, ko856 P), (nat_lit 862, ko862 P), (nat_lit 863, ko863 P)]
noncomputable def dvTab : Addr := 373
noncomputable def KH (P : Params) : Frag := (nat_lit 373, { cls := .none, dict := none, data := .fields (List.toArray []), slots := List.toArray [] }) :: K0 P
noncomputable def asH : List Addr := [nat_lit 373, nat_lit 2, nat_lit 3, nat_lit 27, nat_lit 28, nat_lit 36, nat_lit 37, nat_lit 43, nat_lit 44, nat_lit 50, nat_lit 51, nat_lit 53, nat_lit 54, nat_lit 66, nat_lit 72, nat_lit 73, nat_lit 87, nat_lit 88, nat_lit 89, nat_lit 95, nat_lit 96, nat_lit 97, nat_lit 123, nat_lit 124, nat_lit 132, nat_lit 137, nat_lit 138, nat_lit 144, nat_lit 145, nat_lit 147, nat_lit 148, nat_lit 154, nat_lit 159, nat_lit 160, nat_lit 166, nat_lit 167, nat_lit 169, nat_lit 170, nat_lit 181, nat_lit 182, nat_lit 188, nat_lit 193, nat_lit 199, nat_lit 200, nat_lit 202, nat_lit 203, nat_lit 209, nat_lit 214, nat_lit 220, nat_lit 221, nat_lit 223, nat_lit 224, nat_lit 235, nat_lit 236, nat_lit 242, nat_lit 247, nat_lit 248, nat_lit 254, nat_lit 255, nat_lit 257, nat_lit 258, nat_lit 278, nat_lit 283, nat_lit 289, nat_lit 290, nat_lit 292, nat_lit 293, nat_lit 320, nat_lit 325, nat_lit 326, nat_lit 332, nat_lit 333, nat_lit 335, nat_lit 336, nat_lit 356, nat_lit 357, nat_lit 370, nat_lit 371, nat_lit 375, nat_lit 376, nat_lit 382, nat_lit 383, nat_lit 389, nat_lit 390, nat_lit 394, nat_lit 395, nat_lit 401, nat_lit 402, nat_lit 420, nat_lit 421, nat_lit 455, nat_lit 456, nat_lit 518, nat_lit 519, nat_lit 791, nat_lit 792, nat_lit 822, nat_lit 823, nat_lit 828, nat_lit 834, nat_lit 835, nat_lit 841, nat_lit 842, nat_lit 848, nat_lit 849, nat_lit 855, nat_lit 856, nat_lit 862, nat_lit 863]
end Mine
end
set_option Elab.async false
set_option maxRecDepth 100000
set_option maxHeartbeats 8000000
namespace Mine
local macro_rules | `(tactic| k_head) => `(tactic| o_head (kHook Mine.KH Mine.asH (fun _ => by kernel_rfl)))
open_top hd for PySem.Challenge.rw_ez0174_01
end Mine
open PySem PySem.W PyProof.Rows PySem.Calls
set_option Elab.async false
set_option maxRecDepth 100000
set_option maxHeartbeats 8000000
namespace Mine

noncomputable def DOk (es : List DictEntry) (m : Str → Option Value) : Prop := (∀ e ∈ es, ∃ n t, e.key = .str n t) ∧ ∀ x, (es.find? (·.key.isStr x)).map (·.val) = m x
inductive Cel
  | ob (x : Obj)
  | ns (m : Str → Option Value)
  | ls (v : Array Value)
  | dc (m : Str → Option Value) (k : Nat)
  | tb
  | it (l : Addr) (i : Nat)
  | ce (v : Option Value)
noncomputable def Cel.at (h : Heap) (a : Addr) : Cel → Prop
  | .ob x => h.get? a = some x
  | .ns m => h.Ns a m
  | .ls v => ∃ n, IsL h a v n
  | .dc m k => ∃ es n, h.get? a = some (dictOf es n) ∧ es.length ≤ k ∧ DOk es m
  | .tb => ∃ ps, h.get? a = some (tabObj ps) ∧ TriplesOk ps.toList
  | .it l i => h.IsListIter a l i
  | .ce v => h.IsCell a v
theorem Cel.at.has {h : Heap} {a : Addr} : ∀ {c : Cel}, c.at h a → ∃ o, h.get? a = some o
  | .ob _, e => ⟨_, e⟩
  | .ns _, ⟨o, _, _, e, _⟩ => ⟨o, e⟩
  | .ls _, ⟨_, e⟩ => ⟨_, e⟩
  | .dc _ _, ⟨_, _, e, _⟩ => ⟨_, e⟩
  | .tb, ⟨_, e, _⟩ => ⟨_, e⟩
  | .it _ _, ⟨_, e, _⟩ => ⟨_, e⟩
  | .ce _, ⟨_, e, _⟩ => ⟨_, e⟩
theorem Cel.at.keep {h h' : Heap} {a : Addr} (k : ∀ o, h.get? a = some o → h'.get? a = some o) : ∀ {c : Cel}, c.at h a → c.at h' a
  | .ob _, e => k _ e
  | .ns _, ⟨o, es, ep, e, r⟩ => ⟨o, es, ep, k _ e, r⟩
  | .ls _, ⟨_, e⟩ => ⟨_, k _ e⟩
  | .dc _ _, ⟨es, n, e, r⟩ => ⟨es, n, k _ e, r⟩
  | .tb, ⟨ps, e, r⟩ => ⟨ps, k _ e, r⟩
  | .it _ _, ⟨o, e, r⟩ => ⟨o, k _ e, r⟩
  | .ce _, ⟨o, e, r⟩ => ⟨o, k _ e, r⟩

noncomputable abbrev Im := Addr → Option Obj
noncomputable abbrev Ms := List (Addr × Cel)
noncomputable def Le (I J : Im) : Prop := ∀ a o, I a = some o → J a = some o
theorem Le.rfl {I : Im} : Le I I := fun _ _ e => e
theorem Le.trans {I J K : Im} (x : Le I J) (y : Le J K) : Le I K := fun a o e => y a o (x a o e)
noncomputable def Im.put (I : Im) (a : Addr) (o : Obj) : Im := fun b => if b = a then some o else I b

structure Base (w : World) (I : Im) : Prop where
  k : ∀ a o, (K0 w.params).lookup a = some o → I a = some o
  b : ∃ o es ep, I builtinsNs = some o ∧ o.data = .dict es ep ∧ StrKeys es ∧ ∀ x : Str, x ≠ "__name__" → nsFind es x = bootBuiltins x
  g : ∃ o es ep, I mainGlobals = some o ∧ o.data = .dict es ep ∧ StrKeys es
  l : ∃ o es ep, I cStatics = some o ∧ o.data = .dict es ep ∧ StrKeys es ∧ nsFind es "sys.recursionlimit" = none ∧ nsFind es "sys.int_max_str_digits" = none
  m : ∃ o es ep bm ob, I mainGlobals = some o ∧ o.data = .dict es ep ∧ StrKeys es ∧ nsFind es "__builtins__" = some (.ref bm) ∧ bm ≠ builtinsNs ∧ I bm = some ob ∧ ob.cls = .type "module" ∧ ob.dict = some builtinsNs ∧ ob.data = .plain
theorem Base.le {w : World} {I J : Im} (B : Base w I) (h : Le I J) : Base w J :=
  ⟨fun a o e => h a o (B.k a o e), let ⟨o, es, ep, e, r⟩ := B.b; ⟨o, es, ep, h _ _ e, r⟩, let ⟨o, es, ep, e, r⟩ := B.g; ⟨o, es, ep, h _ _ e, r⟩, let ⟨o, es, ep, e, r⟩ := B.l; ⟨o, es, ep, h _ _ e, r⟩,
   let ⟨o, es, ep, bm, ob, e, r1, r2, r3, r4, e2, r⟩ := B.m; ⟨o, es, ep, bm, ob, h _ _ e, r1, r2, r3, r4, h _ _ e2, r⟩⟩

/-- no generator is left half run; the outer world is as it was -/
noncomputable def GO (O : OsState) (s : Shared) : Prop := AllBare s.gens ∧ s.os = O
structure St (w : World) (O : OsState) (I : Im) (ms : Ms) (s : Shared) : Prop where
  base : Base w I
  imm : ∀ a o, I a = some o → s.heap.get? a = some o
  mu : ∀ p ∈ ms, p.2.at s.heap p.1
  off : ∀ p ∈ ms, I p.1 = none
  nd : (ms.map (·.1)).Nodup
  gens : GO O s

section
variable {w : World} {O : OsState} {I J : Im} {ms : Ms} {s s' : Shared}
theorem St.kin (S : St w O I ms s) : (K0 w.params).In s.heap := fun a o e => S.imm a o (S.base.k a o e)
theorem St.get (S : St w O I ms s) {i : Nat} {a : Addr} {c : Cel} (e : ms[i]? = some (a, c)) : c.at s.heap a := S.mu (a, c) (List.mem_of_getElem? e)
theorem St.ne (S : St w O I ms s) {i : Nat} {a b : Addr} {c : Cel} {o : Obj} (e : ms[i]? = some (a, c)) (h : I b = some o) : b ≠ a := fun q => by
  have := S.off (a, c) (List.mem_of_getElem? e); rw [← q, h] at this; cases this
theorem St.lt (S : St w O I ms s) {p : Addr × Cel} (h : p ∈ ms) : p.1 < s.heap.objs.size := let ⟨_, e⟩ := (S.mu p h).has; Heap.lt_size e
theorem St.none (S : St w O I ms s) : I s.heap.objs.size = none := by
  cases q : I s.heap.objs.size with
  | none => rfl
  | some o => exact absurd (Heap.lt_size (S.imm _ _ q)) (Nat.lt_irrefl _)
/-- nothing known is changed -/
theorem St.ext (S : St w O I ms s) (k : ∀ b o, s.heap.get? b = some o → s'.heap.get? b = some o) (g : GO O s') : St w O I ms s' :=
  ⟨S.base, fun a o e => k _ _ (S.imm a o e), fun p h => (S.mu p h).keep fun o e => k _ _ e, S.off, S.nd, g⟩
theorem St.toks (S : St w O I ms s) {t : Nat} : St w O I ms { s with toks := t } := ⟨S.1, S.2, S.3, S.4, S.5, S.6⟩
theorem St.push (S : St w O I ms s) (c : Cel) {x : Obj} (h : c.at (s.heap.push x) s.heap.objs.size) : St w O I ((s.heap.objs.size, c) :: ms) { s with heap := s.heap.push x } := by
  refine ⟨S.base, fun a o' e => Heap.get?_push_of_some _ (S.imm a o' e), fun p hp => ?_, fun p hp => ?_, List.nodup_cons.mpr ⟨fun q => ?_, S.nd⟩, S.gens⟩
  · cases hp with
    | head => exact h
    | tail _ hp => exact (S.mu p hp).keep fun o e => Heap.get?_push_of_some _ e
  · cases hp with
    | head => exact S.none
    | tail _ hp => exact S.off p hp
  · obtain ⟨p, hp, e⟩ := List.mem_map.mp q
    exact Nat.lt_irrefl _ (e ▸ S.lt hp)
theorem St.new {L : Addr} {c : Cel} (S : St w O I ms s) (hL : s.heap.objs.size ≤ L) (k : ∀ b o, s.heap.get? b = some o → s'.heap.get? b = some o) (h : c.at s'.heap L) (g : GO O s') : St w O I ((L, c) :: ms) s' := by
  refine ⟨S.base, fun a o' e => k _ _ (S.imm a o' e), fun p hp => ?_, fun p hp => ?_, List.nodup_cons.mpr ⟨fun q => ?_, S.nd⟩, g⟩
  · cases hp with
    | head => exact h
    | tail _ hp => exact (S.mu p hp).keep fun o e => k _ _ e
  · cases hp with
    | head =>
      cases q : I L with
      | none => rfl
      | some o => exact absurd (Heap.lt_size (S.imm _ _ q)) (Nat.not_lt.mpr hL)
    | tail _ hp => exact S.off p hp
  · obtain ⟨p, hp, e⟩ := List.mem_map.mp q
    have := S.lt hp; rw [show p.1 = L from e] at this; exact Nat.lt_irrefl _ (Nat.lt_of_lt_of_le this hL)
theorem St.tail {p : Addr × Cel} (S : St w O I (p :: ms) s) : St w O I ms s :=
  ⟨S.base, S.imm, fun q h => S.mu q (.tail _ h), fun q h => S.off q (.tail _ h), (List.nodup_cons.mp S.nd).2, S.gens⟩
theorem St.set (S : St w O I ms s) {i : Nat} {a : Addr} {c c' : Cel} (e : ms[i]? = some (a, c)) (k : ∀ b, b ≠ a → ∀ o, s.heap.get? b = some o → s'.heap.get? b = some o) (h : c'.at s'.heap a) (g : GO O s') :
    St w O I (ms.set i (a, c')) s' := by
  have hm : (ms.set i (a, c')).map (·.1) = ms.map (·.1) := by
    rw [List.map_set]
    refine List.ext_getElem? fun j => ?_
    rw [List.getElem?_set]
    split
    · rename_i q; subst q; split
      · rw [List.getElem?_map, e]; rfl
      · rename_i q; rw [List.getElem?_eq_none (Nat.not_lt.mp q)]
    · rfl
  refine ⟨S.base, fun b o q => k b (S.ne e q) o (S.imm b o q), fun p hp => ?_, fun p hp => ?_, hm ▸ S.nd, g⟩
  · obtain ⟨j, hj⟩ := List.mem_iff_getElem?.mp hp
    rw [List.getElem?_set] at hj
    split at hj
    · split at hj
      · cases hj; exact h
      · cases hj
    · rename_i q
      refine (S.mu p (List.mem_of_getElem? hj)).keep fun o => k _ (fun z => q ?_) o
      have h1 : (ms.map (·.1))[i]? = some a := by rw [List.getElem?_map, e]; rfl
      have h2 : (ms.map (·.1))[j]? = some a := by rw [List.getElem?_map, hj]; exact congrArg some z
      exact (List.getElem?_inj (by obtain ⟨q, _⟩ := List.getElem?_eq_some_iff.mp h1; exact q) S.nd).mp (h1.trans h2.symm)
  · obtain ⟨j, hj⟩ := List.mem_iff_getElem?.mp hp
    rw [List.getElem?_set] at hj
    split at hj
    · split at hj
      · cases hj; exact S.off (a, c) (List.mem_of_getElem? e)
      · cases hj
    · exact S.off _ (List.mem_of_getElem? hj)
/-- a made object becomes a lasting one -/
theorem St.fix {a : Addr} {c : Cel} {o : Obj} (S : St w O I ((a, c) :: ms) s) (e : s.heap.get? a = some o) : St w O (I.put a o) ms s ∧ Le I (I.put a o) := by
  have hI := S.off (a, c) (.head _)
  have le : Le I (I.put a o) := fun b o' q => by
    unfold Im.put; split
    · rename_i z; rw [z] at q; dsimp only at hI; rw [hI] at q; cases q
    · exact q
  refine ⟨⟨S.base.le le, fun b o' q => ?_, S.tail.mu, fun p hp => ?_, S.tail.nd, S.gens⟩, le⟩
  · unfold Im.put at q; split at q
    · rename_i z; subst z; cases q; exact e
    · exact S.imm b o' q
  · unfold Im.put; split
    · rename_i z; exact absurd (List.mem_map.mpr ⟨p, hp, z⟩) (List.nodup_cons.mp S.nd).1
    · exact S.tail.off p hp
theorem Im.put_self (I : Im) (a : Addr) (o : Obj) : (I.put a o) a = some o := if_pos rfl

noncomputable abbrev lo (v : Array Value) (n : Nat) : Obj := { cls := .type "list", dict := none, data := .seq v n, slots := #[] }
noncomputable def ILst (I : Im) (a : Addr) (v : Array Value) : Prop := ∃ n, I a = some (lo v n)
theorem ILst.le {I J : Im} {a : Addr} {v : Array Value} (x : ILst I a v) (h : Le I J) : ILst J a v := let ⟨o, e⟩ := x; ⟨o, h _ _ e⟩
theorem ILst.at {a : Addr} {v : Array Value} (x : ILst I a v) (S : St w O I ms s) : ∃ n, IsL s.heap a v n := let ⟨n, e⟩ := x; ⟨n, S.imm _ _ e⟩
theorem ILst.lst {a : Addr} {v : Array Value} (x : ILst I a v) (S : St w O I ms s) : s.heap.IsList a v := let ⟨_, e⟩ := x.at S; e.isList
theorem St.gl {i : Nat} {a : Addr} {v : Array Value} (S : St w O I ms s) (e : ms[i]? = some (a, .ls v)) : s.heap.IsList a v := let ⟨_, e⟩ := S.get e; e.isList
theorem St.fixL {a : Addr} {v : Array Value} (S : St w O I ((a, .ls v) :: ms) s) : ∃ J, St w O J ms s ∧ Le I J ∧ ILst J a v := by
  obtain ⟨n, e⟩ := S.get (i := 0) rfl
  obtain ⟨S', l⟩ := S.fix e
  exact ⟨_, S', l, n, Im.put_self ..⟩
theorem St.swap {p q : Addr × Cel} (S : St w O I (p :: q :: ms) s) : St w O I (q :: p :: ms) s :=
  ⟨S.base, S.imm, fun r h => S.mu r (by rcases List.mem_cons.mp h with rfl | h; exact .tail _ (.head _); rcases List.mem_cons.mp h with rfl | h; exact .head _; exact .tail _ (.tail _ h)),
    fun r h => S.off r (by rcases List.mem_cons.mp h with rfl | h; exact .tail _ (.head _); rcases List.mem_cons.mp h with rfl | h; exact .head _; exact .tail _ (.tail _ h)),
    (List.Perm.nodup_iff (List.Perm.map _ (List.Perm.swap _ _ _))).mp S.nd, S.gens⟩
theorem St.le_mem {ms' : Ms} (S : St w O I ms s) (f : ∀ p ∈ ms', p ∈ ms) (nd : (ms'.map (·.1)).Nodup) : St w O I ms' s := ⟨S.base, S.imm, fun p h => S.mu p (f p h), fun p h => S.off p (f p h), nd, S.gens⟩
end

/-- room for calls, n deep -/
structure Ok (A : Around) (n : Nat) : Prop where
  h : A.handled = none
  d : A.depth + 2 * n ≤ 900
  u : A.units + 40 * n ≤ 9000

theorem St.nolimit {w : World} {O : OsState} {I : Im} {ms : Ms} {s : Shared} (S : St w O I ms s) : s.heap.NoLimit := by
  obtain ⟨o, es, ep, e, h1, h2, h3, h4⟩ := S.base.l
  exact ⟨_, ⟨o, es, ep, S.imm _ _ e, h1, h2, fun _ => rfl⟩, h3⟩
end Mine
open PySem PySem.W PyProof.Rows PySem.Calls
set_option Elab.async false
set_option maxRecDepth 100000
set_option maxHeartbeats 8000000
namespace Mine
noncomputable def upd (m : Str → Option Value) (x : Str) (v : Value) : Str → Option Value := fun y => if y = x then some v else m y
structure EnvOk (env : Env) (L : Addr) : Prop where
  loc : env.locals = L
  glob : env.globals = mainGlobals
  blt : env.builtins = builtinsNs
  knd : env.scope.kind = .function
noncomputable def fdOf (o : Obj) : FuncData := match o.data with | .func f => f | _ => default
noncomputable def isLoc : Option NameKind → Bool | some .local => true | _ => false
noncomputable def isCell : NameKind → Bool | .cell => true | _ => false
noncomputable def okFn (K : Frag) (fd : FuncData) (xs : List Str) : Bool :=
  fd.scope.names.all (fun x => !isCell x.2) && xs.all (fun x => isLoc (fd.scope.names.lookup x)) && (
  codeIn K fd.code fd.qualname && fd.scope.isCoroutine == false && fd.scope.isGenerator == false && (match fd.scope.kind with | .function => true | _ => false) && fd.globals == mainGlobals && fd.builtins == builtinsNs)

section
variable {w : World} {O : OsState} {A : Around} {E : Value → Shared → Prop} {s : Shared} {I : Im} {ms : Ms} {L a : Addr} {env : Env} {m : Str → Option Value} {x : Str} {pos : Pos} {v : Value}
theorem Ok.call {n : Nat} (h : Ok A (n + 1)) (env : Env) : Ok (A.deeper env) n := ⟨h.h, by have := h.d; show A.depth + 1 + 2 * n ≤ 900; (first | lia | omega), by have := h.u; show A.units + 3 + 40 * n ≤ 9000; (first | lia | omega)⟩
theorem Ok.room {n : Nat} (h : Ok A n) : A.depth < recursionLimit := by have := h.d; show A.depth < 1000; (first | lia | omega)
theorem Ok.room1 {n : Nat} (h : Ok A n) : A.units + 20 < cLine := by have := h.u; show A.units + 20 < 9900; (first | lia | omega)
theorem Ok.le {n k : Nat} (h : Ok A n) (hk : k ≤ n) : Ok A k := ⟨h.h, by have := h.d; (first | lia | omega), by have := h.u; (first | lia | omega)⟩
theorem Ok.mark {n : Nat} (h : Ok A n) : Ok (A.mark none) n := ⟨h.h, h.d, h.u⟩
theorem Ok.in1 {n : Nat} (h : Ok A (n + 1)) : Ok A.in1 n := ⟨h.h, by have := h.d; show A.depth + 2 * n ≤ 900; (first | lia | omega), by have := h.u; show A.units + 1 + 40 * n ≤ 9000; (first | lia | omega)⟩

theorem enter {n : Nat} {f : Addr} {o : Obj} {body : List Stmt} {pos : List Value} {kw : List (Str × Value)} {binds : List (Str × Value)} {Q : Value → Shared → Prop}
    (S : St w O I ms s) (hA : Ok A (n + 1)) (ho : (K0 w.params).lookup f = some o) (hd : o.data = .func (fdOf o)) (hb : (fdOf o).body = .stmts body) (hok : okFn (K0 w.params) (fdOf o) (binds.map (·.1)) = true)
    (hbind : BindsTo s (fdOf o) ⟨pos, kw⟩ binds)
    (h : ∀ A' L s' E', Ok A' n → EnvOk (callEnv (fdOf o) L f) L → St w O I ((L, .ns fun x => binds.reverse.lookup x) :: ms) s' →
      wpAny (model PG w) A' (execs body (callEnv (fdOf o) L f)) (fun fl s'' => Q (match fl with | .ret v => v | _ => .none) s'') E' s') :
    codeAny (model PG w) A (.call (.ref f) ⟨pos, kw⟩) (wants Q E) s := by
  simp only [okFn, Bool.and_eq_true, beq_iff_eq] at hok
  obtain ⟨⟨hcell, hloc⟩, ⟨⟨⟨⟨k1, k2⟩, k3⟩, k4⟩, k5⟩, k6⟩ := hok
  have k4 : (fdOf o).scope.kind = .function := by
    revert k4; cases (fdOf o).scope.kind <;> intro k4 <;> first | rfl | cases k4
  have hcell : ∀ x ∈ (fdOf o).scope.names, x.2 ≠ .cell := fun x hx e => by have := List.all_eq_true.mp hcell x hx; rw [e] at this; cases this
  have hloc : ∀ x ∈ binds, (fdOf o).scope.names.lookup x.1 = some .local := fun x hx => by
    have := List.all_eq_true.mp hloc x.1 (List.mem_map_of_mem hx)
    revert this; cases (fdOf o).scope.names.lookup x.1 with
    | none => intro q; cases q
    | some k => cases k <;> intro q <;> first | rfl | cases q
  refine codeAny_call_def hA.room (S.kin _ _ ho) hd S.nolimit (codeRec_of S.kin k1) hb hbind hcell hloc (fun h₀ hn hk => ?_) k2 k3 k4
  exact h _ _ _ _ (hA.call _) ⟨rfl, k5, k6, k4⟩ (S.new (Nat.le_refl _) hk hn S.gens)

theorem nL {Q : Value → Shared → Prop} (S : St w O I ((L, .ns m) :: ms) s) (V : EnvOk env L) (hx : env.kindOf x = some .local) (hv : m x = some v) (h : Q v s) (hd : (x == ("__debug__" : Str)) = false) :
    wpAny (model PG w) A (eval (.Name x pos) env) Q E s := wpAny_Name (wpAny_loadName_local V.knd hx (V.loc.symm ▸ S.get (i := 0) rfl) hv h) hd
theorem sL {Q : Unit → Shared → Prop} (S : St w O I ((L, .ns m) :: ms) s) (V : EnvOk env L) (hx : env.kindOf x = some .local) (h : ∀ s', St w O I ((L, .ns (upd m x v)) :: ms) s' → Q () s') :
    wpAny (model PG w) A (storeName env x v) Q E s := by
  obtain ⟨rfl, k1, k2, hk⟩ := V
  exact wpAny_storeName_local hx (S.get (i := 0) rfl) (fun h' hn hs => h _ (S.set (i := 0) rfl (fun b hb o e => (hs.2 b hb).trans e) hn S.gens)) (by rw [hk]; rfl)
theorem nG {Q : Value → Shared → Prop} (S : St w O I ms s) (V : EnvOk env L) (hx : env.kindOf x = some .globalImplicit) (hv : nsIn (K0 w.params) mainGlobals x = some (some v)) (h : Q v s) (hd : (x == ("__debug__" : Str)) = false) :
    wpAny (model PG w) A (eval (.Name x pos) env) Q E s := by
  obtain ⟨o, es, ep, e, h1, h2⟩ := S.base.g
  have G : s.heap.Ns mainGlobals (nsFind es) := ⟨o, es, ep, S.imm _ _ e, h1, h2, fun _ => rfl⟩
  exact Name_function_global V.knd hx (loadGlobal_global (V.glob.symm ▸ G) (mg_of S.kin G hv) h) hd
theorem nB {Q : Value → Shared → Prop} (S : St w O I ms s) (V : EnvOk env L) (hx : env.kindOf x = some .globalImplicit) (hv : nsIn (K0 w.params) mainGlobals x = some none) (hb : bootBuiltins x = some v) (h : Q v s) (hd : (x == ("__debug__" : Str)) = false)
    (hn : x ≠ "__name__") : wpAny (model PG w) A (eval (.Name x pos) env) Q E s := by
  obtain ⟨o, es, ep, e, h1, h2⟩ := S.base.g
  have G : s.heap.Ns mainGlobals (nsFind es) := ⟨o, es, ep, S.imm _ _ e, h1, h2, fun _ => rfl⟩
  obtain ⟨o', es', ep', e', h1', h2', h3'⟩ := S.base.b
  have B : s.heap.Ns builtinsNs (nsFind es') := ⟨o', es', ep', S.imm _ _ e', h1', h2', fun _ => rfl⟩
  exact Name_function_global V.knd hx (loadGlobal_builtin (V.glob.symm ▸ G) (mg_none_of S.kin G hv) (V.blt.symm ▸ B) ((h3' x hn).trans hb) h) hd

theorem unpackL {Q : Unit → Shared → Prop} {l : Addr} {items : Array Value} {elts : List Expr} {k n : Nat} (hA : Ok A n) (S : St w O I ms s) (hl : s.heap.IsList l items) (hn : (assignEach elts env).length = items.size) (hstar : (assignEach elts env).findIdx? (·.1) = none)
    (h : ∀ s', St w O I ms s' → wpAny (model PG w) A (assignInOrder ((assignEach elts env).map (·.2)) items.toList) Q E s') : wpAny (model PG w) A (assign (.Tuple elts k pos) env (.ref l)) Q E s := by
  rw [assign_Tuple]
  refine wpAny_bind (wpAny_standAt ?_)
  unfold unpack
  rw [hn, hstar]
  exact wpAny_bind (wpAny_holding (kun_itemsOf hA.h hl fun h' he => h _ (S.ext (fun b o e => he b o (fun q => absurd (Heap.lt_size e) (q ▸ Nat.lt_irrefl _)) e) S.gens)))
theorem asgN {Q : Unit → Shared → Prop} (S : St w O I ((L, .ns m) :: ms) s) (V : EnvOk env L) (hx : env.kindOf x = some .local) (h : ∀ s', St w O I ((L, .ns (upd m x v)) :: ms) s' → Q () s') : wpAny (model PG w) A (assign (.Name x pos) env v) Q E s :=
  wpAny_assign_Name (sL S V hx h)
theorem aioN {t : Value → Sem Unit} {ts : List (Value → Sem Unit)} {y : Value} {xs : List Value} {Q : Unit → Shared → Prop}
    (h : wpAny (model PG w) A (t y) (fun _ s₁ => wpAny (model PG w) A (assignInOrder ts xs) Q E s₁) E s) : wpAny (model PG w) A (assignInOrder (t :: ts) (y :: xs)) Q E s := assignInOrder_cons h
theorem cI {i : Int} {k : Nat} {Q : Value → Shared → Prop} (S : St w O I ms s) (h : ∀ s' t, St w O I ms s' → Q (.int i t) s') : wpAny (model PG w) A (eval (.Constant (.int i) k pos) env) Q E s := wpAny_Constant_int (h _ _ S.toks)
theorem cS {i : Str} {k : Nat} {Q : Value → Shared → Prop} (S : St w O I ms s) (h : ∀ s' t, St w O I ms s' → Q (.str i t) s') : wpAny (model PG w) A (eval (.Constant (.str i) k pos) env) Q E s := wpAny_Constant_str (h _ _ S.toks)
theorem cB {i : Bool} {k : Nat} {Q : Value → Shared → Prop} (h : Q (.bool i) s) : wpAny (model PG w) A (eval (.Constant (.bool i) k pos) env) Q E s := wpAny_Constant_bool h
theorem cN {k : Nat} {Q : Value → Shared → Prop} (h : Q .none s) : wpAny (model PG w) A (eval (.Constant .none k pos) env) Q E s := wpAny_Constant_none h
section
variable {a b : Int} {t u : Tok} {Q : Value → Shared → Prop}
theorem oAdd (S : St w O I ms s) (h : ∀ s' t, St w O I ms s' → Q (.int (a + b) t) s') : wpAny (model PG w) A (binaryOp .Add (.int a t) (.int b u)) Q E s := add_int (h _ _ S.toks)
theorem oSub (S : St w O I ms s) (h : ∀ s' t, St w O I ms s' → Q (.int (a - b) t) s') : wpAny (model PG w) A (binaryOp .Sub (.int a t) (.int b u)) Q E s := sub_int (h _ _ S.toks)
theorem oMul (S : St w O I ms s) (hm : IntMulOk a b) (h : ∀ s' t, St w O I ms s' → Q (.int (a * b) t) s') : wpAny (model PG w) A (binaryOp .Mult (.int a t) (.int b u)) Q E s := mul_int (h _ _ S.toks) hm
theorem oNeg (S : St w O I ms s) (h : ∀ s' t, St w O I ms s' → Q (.int (-a) t) s') : wpAny (model PG w) A (unaryOp .USub (.int a t)) Q E s := PyProof.Rows.neg_int (h _ _ S.toks)
theorem oMod (S : St w O I ms s) (h0 : 0 < b) (hb : b < 1000000) (h : ∀ s' t, St w O I ms s' → Q (.int (a % b) t) s') : wpAny (model PG w) A (binaryOp .Mod (.int a t) (.int b u)) Q E s :=
  mod_int' (by (first | lia | omega)) (by rw [Int.fmod_eq_emod_of_nonneg _ (by (first | lia | omega))]; exact h _ _ S.toks)
end
theorem lenL {Q : Value → Shared → Prop} {l : Addr} {items : Array Value} (S : St w O I ms s) (hl : s.heap.IsList l items) (hfit : items.size < 1000000) (h : ∀ s' t, St w O I ms s' → Q (.int items.size t) s') :
    wpAny (model PG w) A (call (.builtin "len") [.ref l]) Q E s := call_len_list hl (by (first | lia | omega)) (h _ _ S.toks)
/-- a call of a built-in function by its name -/
theorem callB {f : Str} {id : String} {np : Pos} {e : Expr} {rest : List Expr} {Q : Value → Shared → Prop} (S : St w O I ms s) (V : EnvOk env L) (hx : env.kindOf f = some .globalImplicit) (hv : nsIn (K0 w.params) mainGlobals f = some none) (hb : bootBuiltins f = some (.builtin id)) (hn : f ≠ "__name__") (hd : (f == ("__debug__" : Str)) = false)
    (h : wpAny (model PG w) A (spliced (backTo pos (starEach (e :: rest) env))) (fun vs s₁ => wpAny (model PG w) A (call (.builtin id) vs) Q E s₁) E s)
    (he : starEach (e :: rest) env = (false, eval e env) :: starEach rest env := by rfl) (hp : (backTo pos (starEach rest env)).any (·.1) = false := by rfl) :
    wpAny (model PG w) A (eval (.Call (.Name f np) (e :: rest) [] pos) env) Q E s :=
  wpAny_Call_Name_kw (nB S V hx hv hb (by rw [he] at h ⊢; exact Calls.callWith_builtin (by show (false || (backTo pos (starEach rest env)).any (·.1)) = false; rw [hp]; rfl) (Calls.evalArgs_plain h)) hd hn)
/-- a call of a function or class of the program by its name, no keywords -/
theorem callF {f : Str} {v : Value} {np : Pos} {e : Expr} {rest : List Expr} {Q : Value → Shared → Prop} (S : St w O I ms s) (V : EnvOk env L) (hx : env.kindOf f = some .globalImplicit) (hv : nsIn (K0 w.params) mainGlobals f = some (some v)) (hk : keepIn (K0 w.params) v = true) (hd : (f == ("__debug__" : Str)) = false)
    (h : wpAny (model PG w) A (spliced (backTo pos (starEach (e :: rest) env))) (fun vs s₁ => (K0 w.params).In s₁.heap ∧ wpAny (model PG w) A (call v vs) Q E s₁) E s)
    (he : starEach (e :: rest) env = (false, eval e env) :: starEach rest env := by rfl) (hp : (backTo pos (starEach rest env)).any (·.1) = false := by rfl) :
    wpAny (model PG w) A (eval (.Call (.Name f np) (e :: rest) [] pos) env) Q E s :=
  wpAny_Call_Name_kw (nG S V hx hv (callWith_K (first := []) S.kin hk h he hp) hd)
/-- a call of a function or class of the program by its name, with keywords -/
theorem callK {f : Str} {v : Value} {np : Pos} {e : Expr} {rest : List Expr} {kws : List Keyword} {Q : Value → Shared → Prop} (S : St w O I ms s) (V : EnvOk env L) (hx : env.kindOf f = some .globalImplicit) (hv : nsIn (K0 w.params) mainGlobals f = some (some v)) (hk : keepIn (K0 w.params) v = true) (hd : (f == ("__debug__" : Str)) = false)
    (hall : (backToKw pos (keywordEach kws env)).all (·.1.isSome) = true)
    (h : wpAny (model PG w) A (spliced (backTo pos (starEach (e :: rest) env))) (fun vs s₁ => wpAny (model PG w) A (evalAll ((backToKw pos (keywordEach kws env)).map (·.2)))
      (fun ks s₂ => (K0 w.params).In s₂.heap ∧ wpAny (model PG w) A (call v vs (((backToKw pos (keywordEach kws env)).filterMap (·.1)).zip ks)) Q E s₂) E s₁) E s)
    (hplain : ((backTo pos (starEach (e :: rest) env)).any (·.1) || (backToKw pos (keywordEach kws env)).any (·.1.isNone)) = false := by rfl) (he : starEach (e :: rest) env = (false, eval e env) :: starEach rest env := by rfl) :
    wpAny (model PG w) A (eval (.Call (.Name f np) (e :: rest) kws pos) env) Q E s :=
  wpAny_Call_Name_kw (nG S V hx hv (callWith_KW (first := []) S.kin hk hall h hplain he) hd)
theorem setI {Q : Unit → Shared → Prop} {i : Nat} {l : Addr} {items : Array Value} {k : Int} {t : Tok} {v : Value} (S : St w O I ms s) (hl : ms[i]? = some (l, .ls items)) (h0 : 0 ≤ k) (hn : k < items.size) (hz : items.size < 1000000)
    (h : ∀ s', St w O I (ms.set i (l, .ls (items.setIfInBounds k.toNat v))) s' → Q () s') : wpAny (model PG w) A (setItem (.ref l) (.int k t) v) Q E s := by
  obtain ⟨n, e⟩ := S.get hl
  exact ki_setAt e h0 (by (clear h0; (first | lia | omega))) hn (h _ (S.set hl (fun b hb o q => (Heap.get?_update_ne _ _ _ _ hb).trans q) ⟨_, e.update _⟩ S.gens))
theorem setB {Q : Unit → Shared → Prop} {i : Nat} {l : Addr} {items : Array Value} {k : Int} {t : Tok} {v : Value} (S : St w O I ms s) (hl : ms[i]? = some (l, .ls items)) (h0 : k < 0) (hn : -(items.size : Int) ≤ k) (hz : items.size < 1000000)
    (h : ∀ s', St w O I (ms.set i (l, .ls (items.setIfInBounds (k + items.size).toNat v))) s' → Q () s') : wpAny (model PG w) A (setItem (.ref l) (.int k t) v) Q E s := by
  obtain ⟨n, e⟩ := S.get hl
  exact ki_setBack e h0 hn (by (clear h0; (first | lia | omega))) (h _ (S.set hl (fun b hb o q => (Heap.get?_update_ne _ _ _ _ hb).trans q) ⟨_, e.update _⟩ S.gens))
theorem getI {value slice : Expr} {Q : Value → Shared → Prop} {l : Addr} {items : Array Value} {k : Int} {t : Tok} {v : Value} (hl : s.heap.IsList l items) (h0 : 0 ≤ k) (hz : items.size < 1000000) (hx : items[k.toNat]? = some v) (h : Q v s)
    (hs : subscripted slice false (.ref l) (.int k t) = operate [.ref l, .int k t] (getItem (.ref l) (.int k t)) := by with_unfolding_all rfl) :
    wpAny (model PG w) A (subscriptTail value slice (.ref l) (.int k t)) Q E s := by
  have hlt : k.toNat < items.size := by obtain ⟨q, _⟩ := Array.getElem?_eq_some_iff.mp hx; exact q
  unfold subscriptTail
  refine wpAny_bind ?_
  rw [getitemInPython_of_ne hl.typeIs.not_modules]
  refine wpAny_bind (wpAny_specialOf hl.typeIs slot_list_getitem.lookup ?_)
  have fin : wpAny (model PG w) A (subscripted slice false (.ref l) (.int k t)) (fun r s₃ => wpAny (model PG w) A (letTemporaryGo value (.ref l) r >>= fun _ => pure r) Q E s₃) E s := by
    rw [hs]
    exact wpAny_operating (wpAny_getItem_list hl h0 (by (clear h0; (first | lia | omega))) hx (wpAny_bind (wpAny_letTemporaryGo (wpAny_pure h))))
  first
    | exact wpAny_pure (wpAny_bind fin)
    | exact wpAny_bind (wpAny_pure (wpAny_bind fin))
    | exact wpAny_bind fin
theorem getB {value slice : Expr} {Q : Value → Shared → Prop} {l : Addr} {items : Array Value} {k : Int} {t : Tok} {v : Value} (hl : s.heap.IsList l items) (h0 : k < 0) (h1 : -(items.size : Int) ≤ k) (hz : items.size < 1000000) (hx : items[(k + items.size).toNat]? = some v) (h : Q v s)
    (hs : subscripted slice false (.ref l) (.int k t) = operate [.ref l, .int k t] (getItem (.ref l) (.int k t)) := by with_unfolding_all rfl) :
    wpAny (model PG w) A (subscriptTail value slice (.ref l) (.int k t)) Q E s := by
  unfold subscriptTail
  refine wpAny_bind ?_
  rw [getitemInPython_of_ne hl.typeIs.not_modules]
  refine wpAny_bind (wpAny_specialOf hl.typeIs slot_list_getitem.lookup ?_)
  have fin : wpAny (model PG w) A (subscripted slice false (.ref l) (.int k t)) (fun r s₃ => wpAny (model PG w) A (letTemporaryGo value (.ref l) r >>= fun _ => pure r) Q E s₃) E s := by
    rw [hs]
    exact wpAny_operating (wpAny_getItem_list_neg hl h0 h1 (by (clear h0; (first | lia | omega))) hx (wpAny_bind (wpAny_letTemporaryGo (wpAny_pure h))))
  first
    | exact wpAny_pure (wpAny_bind fin)
    | exact wpAny_bind (wpAny_pure (wpAny_bind fin))
    | exact wpAny_bind fin
end

end Mine
open PySem PySem.W PyProof.Rows PySem.Calls Builtin Builtin.ObjectAttr
set_option Elab.async false
set_option maxRecDepth 100000
set_option maxHeartbeats 8000000
namespace Mine
theorem gl1 (P : Params) : nsIn (K0 P) mainGlobals "CommonToken" = some (some (.ref 54)) := by kernel_rfl
theorem gl2 (P : Params) : nsIn (K0 P) mainGlobals "Node" = some (some (.ref 124)) := by kernel_rfl
theorem gl3 (P : Params) : nsIn (K0 P) mainGlobals "Comment" = some (some (.ref 148)) := by kernel_rfl
theorem gl4 (P : Params) : nsIn (K0 P) mainGlobals "Expression" = some (some (.ref 170)) := by kernel_rfl
theorem gl5 (P : Params) : nsIn (K0 P) mainGlobals "Block" = some (some (.ref 203)) := by kernel_rfl
theorem gl6 (P : Params) : nsIn (K0 P) mainGlobals "Chunk" = some (some (.ref 224)) := by kernel_rfl
theorem gl7 (P : Params) : nsIn (K0 P) mainGlobals "Name" = some (some (.ref 258)) := by kernel_rfl
theorem gl8 (P : Params) : nsIn (K0 P) mainGlobals "Do" = some (some (.ref 293)) := by kernel_rfl
theorem gl9 (P : Params) : nsIn (K0 P) mainGlobals "Call" = some (some (.ref 336)) := by kernel_rfl
theorem gl10 (P : Params) : nsIn (K0 P) mainGlobals "LuaOutputVisitor" = some (some (.ref 823)) := by kernel_rfl
theorem gl11 (P : Params) : nsIn (K0 P) mainGlobals "_pe_name" = some (some (.ref 28)) := by kernel_rfl
theorem gl12 (P : Params) : nsIn (K0 P) mainGlobals "indent" = some (some (.ref 357)) := by kernel_rfl
theorem gl13 (P : Params) : nsIn (K0 P) mainGlobals "to_lua_source" = some (some (.ref 835)) := by kernel_rfl
theorem gl14 (P : Params) : nsIn (K0 P) mainGlobals "_law_draw" = some (some (.ref 842)) := by kernel_rfl
theorem gl15 (P : Params) : nsIn (K0 P) mainGlobals "_law_sign" = some (some (.ref 849)) := by kernel_rfl
theorem gl16 (P : Params) : nsIn (K0 P) mainGlobals "_law_remarks" = some (some (.ref 856)) := by kernel_rfl
theorem gl17 (P : Params) : nsIn (K0 P) mainGlobals "_law_behind" = some (some (.ref 863)) := by kernel_rfl
theorem bl1 (P : Params) : nsIn (K0 P) mainGlobals "len" = some none := by kernel_rfl
theorem bv1 : bootBuiltins "len" = some (.builtin "len") := by kernel_rfl
theorem bl2 (P : Params) : nsIn (K0 P) mainGlobals "range" = some none := by kernel_rfl
theorem bv2 : bootBuiltins "range" = some (.type "range") := by kernel_rfl
theorem bl3 (P : Params) : nsIn (K0 P) mainGlobals "str" = some none := by kernel_rfl
theorem bv3 : bootBuiltins "str" = some (.type "str") := by kernel_rfl
theorem bl4 (P : Params) : nsIn (K0 P) mainGlobals "isinstance" = some none := by kernel_rfl
theorem bv4 : bootBuiltins "isinstance" = some (.builtin "isinstance") := by kernel_rfl
theorem bl5 (P : Params) : nsIn (K0 P) mainGlobals "type" = some none := by kernel_rfl
theorem bv5 : bootBuiltins "type" = some (.type "type") := by kernel_rfl
theorem bl6 (P : Params) : nsIn (K0 P) mainGlobals "getattr" = some none := by kernel_rfl
theorem bv6 : bootBuiltins "getattr" = some (.builtin "getattr") := by kernel_rfl
theorem bl7 (P : Params) : nsIn (K0 P) mainGlobals "super" = some none := by kernel_rfl
theorem bv7 : bootBuiltins "super" = some (.type "super") := by kernel_rfl
theorem DOk.put {es : List DictEntry} {m : Str → Option Value} {name : Str} {hsh : Int} {t : Tok} {v : Value} (D : DOk es m) : DOk (putL name hsh (.str name t) v es) (upd m name v) := by
  have key : ∀ es : List DictEntry, (∀ e ∈ es, ∃ n t, e.key = .str n t) → (∀ e ∈ putL name hsh (.str name t) v es, ∃ n t, e.key = Value.str n t) ∧
      ∀ x, ((putL name hsh (.str name t) v es).find? (·.key.isStr x)).map (·.val) = if x = name then some v else (es.find? (·.key.isStr x)).map (·.val) := by
    intro es
    induction es with
    | nil =>
      refine fun _ => ⟨fun e he => ⟨name, t, by simp only [putL, List.mem_singleton] at he; rw [he]⟩, fun x => ?_⟩
      simp only [putL, List.find?_cons, Value.isStr, List.find?_nil]
      by_cases h : x = name
      · subst h; simp
      · rw [if_neg h, show (name == x) = false from beq_false_of_ne (Ne.symm h)]
    | cons e r ih =>
      intro hk
      obtain ⟨n, u, he⟩ := hk e (.head _)
      obtain ⟨i1, i2⟩ := ih fun e h => hk e (.tail _ h)
      cases q : e.key.isStr name with
      | true =>
        simp only [putL, q, if_true]
        refine ⟨fun e' h => by rcases List.mem_cons.mp h with rfl | h; exact ⟨n, u, he⟩; exact hk e' (.tail _ h), fun x => ?_⟩
        simp only [List.find?_cons]
        cases z : e.key.isStr x with
        | true => rw [Value.isStr_inj _ _ _ z q, if_pos rfl]; rfl
        | false =>
          have : x ≠ name := by rintro rfl; rw [q] at z; cases z
          rw [if_neg this]
      | false =>
        simp only [putL, q, Bool.false_eq_true, if_false]
        refine ⟨fun e' h => by rcases List.mem_cons.mp h with rfl | h; exact ⟨n, u, he⟩; exact i1 e' h, fun x => ?_⟩
        simp only [List.find?_cons]
        cases z : e.key.isStr x with
        | true =>
          have : x ≠ name := by rintro rfl; rw [q] at z; cases z
          rw [if_neg this]
        | false => exact i2 x
  exact ⟨(key es D.1).1, fun x => by rw [(key es D.1).2 x, D.2 x]; rfl⟩
theorem putL_len (name : Str) (hsh : Int) (key v : Value) : ∀ es : List DictEntry, (putL name hsh key v es).length ≤ es.length + 1
  | [] => Nat.le_refl _
  | e :: r => by
    unfold putL
    split
    · simp
    · have := putL_len name hsh key v r; simp; (first | lia | omega)
theorem DOk.look {es : List DictEntry} {m : Str → Option Value} (D : DOk es m) (n : Nat) (name : Str) : lookIn name (dictOf es n) = some (m name) := by
  rw [lookIn_dict, ← D.2 name]
  unfold getL
  cases q : es.find? (fun e => e.key.isStr name) with
  | some e => rfl
  | none =>
    have : es.any (·.refKey) = false := by
      rw [List.any_eq_false]
      intro e he
      obtain ⟨n, t, hkey⟩ := D.1 e he
      unfold DictEntry.refKey
      rw [hkey]; simp
    dsimp only
    rw [this]; rfl
theorem St.perm {w : World} {O : OsState} {I : Im} {ms ms' : Ms} {s : Shared} (S : St w O I ms s) (p : ms.Perm ms') : St w O I ms' s :=
  ⟨S.base, S.imm, fun r h => S.mu r (p.mem_iff.mpr h), fun r h => S.off r (p.mem_iff.mpr h), (List.Perm.nodup_iff (p.map _)).mp S.nd, S.gens⟩
theorem St.front {w : World} {O : OsState} {I : Im} {l₁ l₂ : Ms} {a : Addr × Cel} {s : Shared} (S : St w O I (l₁ ++ a :: l₂) s) : St w O I (a :: (l₁ ++ l₂)) s := S.perm List.perm_middle
theorem St.sub {w : World} {O : OsState} {I : Im} {ms ms' : Ms} {s : Shared} (S : St w O I ms s) (h : ms'.Sublist ms) : St w O I ms' s :=
  S.le_mem (fun p hp => h.subset hp) ((h.map _).nodup S.nd)
theorem St.rot2 {w : World} {O : OsState} {I : Im} {ms : Ms} {s : Shared} {p q r : Addr × Cel} (S : St w O I (p :: q :: r :: ms) s) : St w O I (r :: p :: q :: ms) s :=
  S.perm ((List.Perm.cons p (List.Perm.swap r q ms)).trans (List.Perm.swap r p (q :: ms)))
theorem St.rot3 {w : World} {O : OsState} {I : Im} {ms : Ms} {s : Shared} {p q r u : Addr × Cel} (S : St w O I (p :: q :: r :: u :: ms) s) : St w O I (u :: p :: q :: r :: ms) s :=
  S.perm ((List.Perm.cons p ((List.Perm.cons q (List.Perm.swap u r ms)).trans (List.Perm.swap u q (r :: ms)))).trans (List.Perm.swap u p (q :: r :: ms)))
noncomputable def HI (h : Heap) (x C : Addr) (m : Str → Option Value) : Prop := ∃ dx es n, h.get? x = some (instObj C dx) ∧ h.get? dx = some (dictOf es n) ∧ DOk es m
noncomputable def IHI (I : Im) (x C : Addr) (m : Str → Option Value) : Prop := ∃ dx es n, I x = some (instObj C dx) ∧ I dx = some (dictOf es n) ∧ DOk es m
theorem IHI.le {I J : Im} {x C : Addr} {m : Str → Option Value} (H : IHI I x C m) (l : Le I J) : IHI J x C m := let ⟨dx, es, n, a, b, c⟩ := H; ⟨dx, es, n, l _ _ a, l _ _ b, c⟩
theorem IHI.at {w : World} {O : OsState} {I : Im} {ms : Ms} {s : Shared} {x C : Addr} {m : Str → Option Value} (H : IHI I x C m) (S : St w O I ms s) : HI s.heap x C m := let ⟨dx, es, n, a, b, c⟩ := H; ⟨dx, es, n, S.imm _ _ a, S.imm _ _ b, c⟩
theorem HI.inst {h : Heap} {x C : Addr} {m : Str → Option Value} (H : HI h x C m) : ∃ dx od, InstAt h x (instObj C dx) C (some od) ∧ ∀ name, lookIn name od = some (m name) := by
  obtain ⟨dx, es, n, e, hn, D⟩ := H
  exact ⟨dx, _, ⟨e, rfl, rfl, hn⟩, D.look n⟩
theorem St.hi {w : World} {O : OsState} {I : Im} {ms : Ms} {s : Shared} {i j : Nat} {x dx C : Addr} {m : Str → Option Value} {k : Nat} (S : St w O I ms s) (hx : ms[i]? = some (x, .ob (instObj C dx))) (hd : ms[j]? = some (dx, .dc m k)) : HI s.heap x C m :=
  let ⟨es, n, e, _, D⟩ := S.get hd; ⟨dx, es, n, S.get hx, e, D⟩
/-- a finished object becomes a lasting one -/
theorem St.fixI {w : World} {O : OsState} {I : Im} {ms : Ms} {s : Shared} {x dx C : Addr} {m : Str → Option Value} {k : Nat} (S : St w O I ((x, .ob (instObj C dx)) :: (dx, .dc m k) :: ms) s) : ∃ J, St w O J ms s ∧ Le I J ∧ IHI J x C m := by
  obtain ⟨S1, l1⟩ := S.fix (S.get (i := 0) rfl)
  obtain ⟨es, n, e, _, D⟩ := S1.get (i := 0) rfl
  obtain ⟨S2, l2⟩ := S1.fix e
  exact ⟨_, S2, l1.trans l2, dx, es, n, l2 _ _ (Im.put_self ..), Im.put_self .., D⟩
noncomputable def attrOk (K : Frag) (C : Addr) (name : Str) : Bool := plainGet K C name && hasDictIn K C && (match findIn K (.ref C) name with | some attr => noGet K attr | none => false)
noncomputable def setOk (K : Frag) (C : Addr) (name : Str) : Bool :=
  findIn K (.ref C) "__setattr__" == some (some (.builtin "object.__setattr__")) && plainOver K C && takerIn K C name == some none && hasDictIn K C
noncomputable def methOk (K : Frag) (C : Addr) (name : Str) (f : Addr) : Bool :=
  findIn K (.ref C) "__getattribute__" == some (some (.builtin "object.__getattribute__")) && findIn K (.ref C) "__getattr__" == some none && findIn K (.ref C) name == some (some (.ref f)) && typeIn K (.ref f) == some (.type "function")
noncomputable def makeOk (K : Frag) (C fI : Addr) : Bool := makesIn K C && findIn K (.ref C) "__init__" == some (some (.ref fI)) && typeIn K (.ref fI) == some (.type "function")
section
variable {w : World} {O : OsState} {A : Around} {E : Value → Shared → Prop} {s : Shared} {I : Im} {ms : Ms} {L x C dx : Addr} {env : Env} {m : Str → Option Value} {name : Str} {pos : Pos} {v : Value}
theorem getA {expr : Bool} {Q : Value → Shared → Prop} (S : St w O I ms s) (H : HI s.heap x C m) (hv : m name = some v) (hC : attrOk (K0 w.params) C name = true) (hh : handedIn v = true) (h : ∀ s', St w O I ms s' → Q v s') :
    wpAny (model PG w) A (getAttr (.ref x) name expr) Q E s := by
  simp only [attrOk, Bool.and_eq_true] at hC
  obtain ⟨⟨c1, c2⟩, c3⟩ := hC
  obtain ⟨dx, od, J, hl⟩ := H.inst
  cases ha : findIn (K0 w.params) (.ref C) name with
  | none => rw [ha] at c3; cases c3
  | some attr =>
    rw [ha] at c3
    exact get_value S.kin J (plainGet_of c1).1 (findObj_own c2 ha c3 (by rw [hl, hv])) hh (h _ S.toks)
theorem metA {f : Addr} {pl : Sem Bool} {Q : Value × List Value → Shared → Prop} (S : St w O I ms s) (H : HI s.heap x C m) (hv : m name = none) (hC : methOk (K0 w.params) C name f = true) (h : Q (.ref f, [.ref x]) s) :
    wpAny (model PG w) A (getMethod (.ref x) name pl) Q E s := by
  simp only [methOk, Bool.and_eq_true, beq_iff_eq] at hC
  obtain ⟨⟨⟨c1, c2⟩, c3⟩, c4⟩ := hC
  obtain ⟨dx, od, J, hl⟩ := H.inst
  exact method_fn S.kin J c1 c2 c3 c4 (by show Option.map _ (lookIn name od) = _; rw [hl, hv]; rfl) h
theorem setA {i j : Nat} {Q : Unit → Shared → Prop} (S : St w O I ms s) (hx : ms[i]? = some (x, .ob (instObj C dx))) {k : Nat} (hd : ms[j]? = some (dx, .dc m k)) (hC : setOk (K0 w.params) C name = true) (hk : k < 1000)
    (h : ∀ s', St w O I (ms.set j (dx, .dc (upd m name v) (k + 1))) s' → Q () s') : wpAny (model PG w) A (setAttr (.ref x) name v) Q E s := by
  simp only [setOk, Bool.and_eq_true, beq_iff_eq] at hC
  obtain ⟨⟨⟨c1, c2⟩, c3⟩, c4⟩ := hC
  obtain ⟨es, n, hn, hl, D⟩ := S.get hd
  obtain ⟨cd, hc, hdc⟩ := any_some c4
  have J : InstAt s.heap x (instObj C dx) C (some (dictOf es n)) := ⟨S.get hx, rfl, rfl, hn⟩
  have e : Obj.putName name (PyData.keyHash w.params name) (.str name (s.toks + 1)) v (dictOf es n) = dictOf (putL name (PyData.keyHash w.params name) (.str name (s.toks + 1)) v es) (putN name es n) := putName_dict ..
  refine set_plain S.kin J c1 (osa_open (s := { s with toks := s.toks + 1 }) S.kin J c2 c3 fun b => ?_)
  refine wpAny_bind (wpAny_pure (wpAny_bind (wpAny_bind (wpAny_loadPart (S.get hx) (wpAny_bind (looks_clsIn (M := model PG w) S.kin hc _ _ _ _ (fun _ _ e => e) ?_))))))
  rw [hdc]
  refine wpAny_pure (a := some dx) (wpAny_bind (wpAny_pure (wpAny_bind ?_)))
  unfold nsSet
  refine wpAny_bind (wpAny_bind (wpAny_askSetting (wpAny_pure (wpAny_bind (wpAny_mkText (wpAny_bind (wpAny_loadPart hn ?_)))))))
  have c : (!es.toArray.any (·.key.isStr name) && es.toArray.any (·.refKey)) = false := by
    have : es.toArray.any (·.refKey) = false := by
      rw [← Array.any_toList, List.any_eq_false]
      intro e he
      obtain ⟨n, t, hkey⟩ := D.1 e he
      unfold DictEntry.refKey
      rw [hkey]; simp
    rw [this, Bool.and_false]
  dsimp only
  rw [aRefKeyMayBeTheName_at, c]
  refine wpAny_updatePart hn ?_
  have hn' : (s.heap.update dx (Obj.putName name (PyData.keyHash w.params name) (.str name (s.toks + 1)) v)).get? dx = some (dictOf (putL name (PyData.keyHash w.params name) (.str name (s.toks + 1)) v es) (putN name es n)) := by
    rw [← e]; exact Heap.get?_update_self _ hn (by rw [e]; rfl)
  have len := putL_len name (PyData.keyHash w.params name) (.str name (s.toks + 1)) v es
  refine wpAny_bind (wpAny_lookBehind hn' (pastItsLine_dict (by rw [List.size_toArray, sizeLine_eq]; (first | lia | omega))) ?_)
  refine wpAny_pure (h _ ?_)
  exact S.set hd (fun b hb o q => (Heap.get?_update_ne _ _ _ _ hb).trans q) ⟨_, _, hn', by (clear hk; (first | lia | omega)), D.put⟩ S.gens
theorem newC {n : Nat} {fI : Addr} {rest : List Value} {kw : List (Str × Value)} {Q : Value → Shared → Prop} (S : St w O I ms s) (hA : Ok A (n + 1)) (hC : makeOk (K0 w.params) C fI = true)
    (h : ∀ A' s' x dx, Ok A' n → St w O I ((x, .ob (instObj C dx)) :: (dx, .dc (fun _ => none) 0) :: ms) s' → codeAny (model PG w) A' (.call (.ref fI) ⟨.ref x :: rest, kw⟩) (wants (fun v s'' => v = .none ∧ Q (.ref x) s'') E) s') :
    codeAny (model PG w) A (.call (.ref C) ⟨rest, kw⟩) (wants Q E) s := by
  simp only [makeOk, Bool.and_eq_true, beq_iff_eq] at hC
  obtain ⟨⟨c1, c2⟩, c3⟩ := hC
  have hn : (s.heap.push emptyDict).get? s.heap.objs.size = some (dictOf [] 0) := Heap.get?_push_size _ rfl
  have S1 := (S.push (.dc (fun _ => none) 0) (x := emptyDict) ⟨[], 0, hn, Nat.le_refl _, fun _ h => (nomatch h), fun _ => rfl⟩).push (.ob (instObj C s.heap.objs.size)) (x := instObj C s.heap.objs.size) (Heap.get?_push_size _ rfl)
  obtain ⟨hh, g, d, t, os⟩ := s
  have S1 : St w O I ((hh.objs.size + 1, .ob (instObj C hh.objs.size)) :: (hh.objs.size, .dc (fun _ => none) 0) :: ms) ⟨(hh.push emptyDict).push (instObj C hh.objs.size), g, d, t, os⟩ := by
    have e : (hh.push emptyDict).objs.size = hh.objs.size + 1 := Heap.size_push _ _
    rw [← e]; exact S1
  refine make_core (makes_of S.kin c1) (looks_findIn S.kin c2) (fun self => bind_fn S.kin self c3) (.inl rfl) ?_
  refine codeAny_mono (h _ _ _ _ ?_ S1) fun r s' z => ?_
  · refine ⟨hA.h, ?_, ?_⟩
    · have := hA.d; show A.depth + Code.weight (.builtin "type.__call__" ⟨.ref C :: rest, kw⟩) + 2 * n ≤ 900
      have : Code.weight (.builtin "type.__call__" ⟨.ref C :: rest, kw⟩) = 1 := by kernel_rfl
      (first | lia | omega)
    · have := hA.u; show A.units + Code.cUnits (.builtin "type.__call__" ⟨.ref C :: rest, kw⟩) + 40 * n ≤ 9000
      have : Code.cUnits (.builtin "type.__call__" ⟨.ref C :: rest, kw⟩) = 1 := by kernel_rfl
      (first | lia | omega)
  · rcases r with e | (v | _ | _ | _) <;> exact z
end
end Mine
open PySem PySem.W PyProof.Rows PySem.Calls
set_option Elab.async false
set_option maxRecDepth 100000
set_option maxHeartbeats 8000000
set_option linter.all false
namespace Mine
section
theorem lk44 (P : Params) : (K0 P).lookup 44 = some (ko44 P) := by kernel_rfl
theorem lk37 (P : Params) : (K0 P).lookup 37 = some (ko37 P) := by kernel_rfl
noncomputable abbrev e44 (w : World) (L : Addr) : Env := callEnv (fdOf (ko44 w.params)) L 44
section
variable {w : World} {O : OsState} {A : Around} {E : Value → Shared → Prop} {s : Shared} {I : Im} {ms : Ms} {Q : Value → Shared → Prop}
theorem emptySource {expr : Bool} (S : St w O I ms s) (h : ∀ s', St w O I ms s' → Q (.ref 36) s') : wpAny (model PG w) A (getAttr (.ref 54) "EMPTY_SOURCE" expr) Q E s :=
  cls_value (mc := .type "type") S.kin (by kernel_rfl) (v := .ref 36) (by kernel_rfl) (by kernel_rfl) (h _ S.toks)
theorem tokInit {n : Nat} {x dx : Addr} {text ix ln st en : Value} (hA : Ok A (n + 1)) (S : St w O I ((x, .ob (instObj 54 dx)) :: (dx, .dc (fun _ => none) 0) :: ms) s) {pos : List Value}
    (hb : ∀ s, (K0 w.params).In s.heap → BindsTo s (fdOf (ko44 w.params)) ⟨pos, []⟩ [("self", .ref x), ("text", text), ("tokenIndex", ix), ("line", ln), ("start", st), ("stop", en)])
    (q : ∀ s' m, St w O I ((x, .ob (instObj 54 dx)) :: (dx, .dc m 6) :: ms) s' → m = upd (upd (upd (upd (upd (upd (fun _ => none) "source" (.ref 36)) "text" text) "tokenIndex" ix) "line" ln) "start" st) "stop" en → Q .none s') :
    codeAny (model PG w) A (.call (.ref 44) ⟨pos, []⟩) (wants Q E) s := by
  refine enter (n := n) S hA (lk44 _) rfl rfl (by kernel_rfl) (hb _ S.kin) fun A' L s' E' hA' V S => ?_
  change wpAny _ A' (execs (fnB (stB 3 1)) (e44 w L)) _ _ _
  refine wpAny_execs_cons ?_
  ((with_reducible show wpAny _ _ (exec (.Assign [.Attribute _ _ _] _ _) _) _ _ _); refine plainObj_wpAny_Assign_Attribute ?_)
  ((with_reducible show wpAny _ _ (eval (.Attribute _ _ _) _) _ _ _); refine Attribute_any_ ?_)
  ((with_reducible show wpAny _ _ (eval (.Name _ _) _) _ _ _); refine nG (by assumption) (by assumption) (by kernel_rfl) (by first | with_reducible exact gl1 _ | with_reducible exact gl2 _ | with_reducible exact gl3 _ | with_reducible exact gl4 _ | with_reducible exact gl5 _ | with_reducible exact gl6 _ | with_reducible exact gl7 _ | with_reducible exact gl8 _ | with_reducible exact gl9 _ | with_reducible exact gl10 _ | with_reducible exact gl11 _ | with_reducible exact gl12 _ | with_reducible exact gl13 _ | with_reducible exact gl14 _ | with_reducible exact gl15 _ | with_reducible exact gl16 _ | with_reducible exact gl17 _) ?_ (by decide +kernel))
  dsimp only
  refine emptySource (by assumption) fun s' S => ?_
  ((with_reducible show wpAny _ _ (eval (.Name _ _) _) _ _ _); refine nL (by assumption) (by assumption) (by kernel_rfl) (by first | with_unfolding_all rfl | with_unfolding_all assumption) ?_ (by decide +kernel))
  refine setA (i := 1) (j := 2) (by assumption) (by rfl) (by rfl) (by kernel_rfl) (by decide) ?_; intro _ _
  with_reducible refine wpAny_execs_cons ?_
  ((with_reducible show wpAny _ _ (exec (.Assign [.Attribute _ _ _] _ _) _) _ _ _); refine plainObj_wpAny_Assign_Attribute ?_)
  ((with_reducible show wpAny _ _ (eval (.Name _ _) _) _ _ _); refine nL (by assumption) (by assumption) (by kernel_rfl) (by first | with_unfolding_all rfl | with_unfolding_all assumption) ?_ (by decide +kernel))
  ((with_reducible show wpAny _ _ (eval (.Name _ _) _) _ _ _); refine nL (by assumption) (by assumption) (by kernel_rfl) (by first | with_unfolding_all rfl | with_unfolding_all assumption) ?_ (by decide +kernel))
  dsimp only
  refine setA (i := 1) (j := 2) (by assumption) (by rfl) (by rfl) (by kernel_rfl) (by decide) ?_; intro _ _
  with_reducible refine wpAny_execs_cons ?_
  ((with_reducible show wpAny _ _ (exec (.Assign [.Attribute _ _ _] _ _) _) _ _ _); refine plainObj_wpAny_Assign_Attribute ?_)
  ((with_reducible show wpAny _ _ (eval (.Name _ _) _) _ _ _); refine nL (by assumption) (by assumption) (by kernel_rfl) (by first | with_unfolding_all rfl | with_unfolding_all assumption) ?_ (by decide +kernel))
  ((with_reducible show wpAny _ _ (eval (.Name _ _) _) _ _ _); refine nL (by assumption) (by assumption) (by kernel_rfl) (by first | with_unfolding_all rfl | with_unfolding_all assumption) ?_ (by decide +kernel))
  dsimp only
  refine setA (i := 1) (j := 2) (by assumption) (by rfl) (by rfl) (by kernel_rfl) (by decide) ?_; intro _ _
  with_reducible refine wpAny_execs_cons ?_
  ((with_reducible show wpAny _ _ (exec (.Assign [.Attribute _ _ _] _ _) _) _ _ _); refine plainObj_wpAny_Assign_Attribute ?_)
  ((with_reducible show wpAny _ _ (eval (.Name _ _) _) _ _ _); refine nL (by assumption) (by assumption) (by kernel_rfl) (by first | with_unfolding_all rfl | with_unfolding_all assumption) ?_ (by decide +kernel))
  ((with_reducible show wpAny _ _ (eval (.Name _ _) _) _ _ _); refine nL (by assumption) (by assumption) (by kernel_rfl) (by first | with_unfolding_all rfl | with_unfolding_all assumption) ?_ (by decide +kernel))
  dsimp only
  refine setA (i := 1) (j := 2) (by assumption) (by rfl) (by rfl) (by kernel_rfl) (by decide) ?_; intro _ _
  with_reducible refine wpAny_execs_cons ?_
  ((with_reducible show wpAny _ _ (exec (.Assign [.Attribute _ _ _] _ _) _) _ _ _); refine plainObj_wpAny_Assign_Attribute ?_)
  ((with_reducible show wpAny _ _ (eval (.Name _ _) _) _ _ _); refine nL (by assumption) (by assumption) (by kernel_rfl) (by first | with_unfolding_all rfl | with_unfolding_all assumption) ?_ (by decide +kernel))
  ((with_reducible show wpAny _ _ (eval (.Name _ _) _) _ _ _); refine nL (by assumption) (by assumption) (by kernel_rfl) (by first | with_unfolding_all rfl | with_unfolding_all assumption) ?_ (by decide +kernel))
  dsimp only
  refine setA (i := 1) (j := 2) (by assumption) (by rfl) (by rfl) (by kernel_rfl) (by decide) ?_; intro _ _
  with_reducible refine wpAny_execs_cons ?_
  ((with_reducible show wpAny _ _ (exec (.Assign [.Attribute _ _ _] _ _) _) _ _ _); refine plainObj_wpAny_Assign_Attribute ?_)
  ((with_reducible show wpAny _ _ (eval (.Name _ _) _) _ _ _); refine nL (by assumption) (by assumption) (by kernel_rfl) (by first | with_unfolding_all rfl | with_unfolding_all assumption) ?_ (by decide +kernel))
  ((with_reducible show wpAny _ _ (eval (.Name _ _) _) _ _ _); refine nL (by assumption) (by assumption) (by kernel_rfl) (by first | with_unfolding_all rfl | with_unfolding_all assumption) ?_ (by decide +kernel))
  dsimp only
  refine setA (i := 1) (j := 2) (by assumption) (by rfl) (by rfl) (by kernel_rfl) (by decide) ?_; intro _ _
  with_reducible refine wpAny_execs_nil ?_
  dsimp only
  exact q _ _ (St.tail (by assumption)) rfl
noncomputable def tokM (text ix ln st en src : Value) : Str → Option Value := upd (upd (upd (upd (upd (upd (fun _ => none) "source" src) "text" text) "tokenIndex" ix) "line" ln) "start" st) "stop" en
theorem tokNew {n : Nat} {text ix ln st en : Value} (hA : Ok A (n + 2)) (S : St w O I ms s) {pos : List Value}
    (hb : ∀ x s, (K0 w.params).In s.heap → BindsTo s (fdOf (ko44 w.params)) ⟨.ref x :: pos, []⟩ [("self", .ref x), ("text", text), ("tokenIndex", ix), ("line", ln), ("start", st), ("stop", en)])
    (q : ∀ s' x dx, St w O I ((x, .ob (instObj 54 dx)) :: (dx, .dc (tokM text ix ln st en (.ref 36)) 6) :: ms) s' → Q (.ref x) s') :
    codeAny (model PG w) A (.call (.ref 54) ⟨pos, []⟩) (wants Q E) s :=
  newC (n := n + 1) S hA (by kernel_rfl) fun A' s' x dx hA' S => tokInit (n := n) hA' S (hb x) fun s' m S e => ⟨rfl, q s' x dx (by subst e; exact S)⟩
theorem bind3 {x : Addr} {a b c : Value} (X : (K0 w.params).In s.heap) : BindsTo s (fdOf (ko44 w.params)) ⟨[.ref x, a, b, c], []⟩ [("self", .ref x), ("text", a), ("tokenIndex", b), ("line", c), ("start", .int (-1) 220), ("stop", .int (-1) 222)] :=
  binds_K X rfl (lk37 _) rfl rfl rfl
theorem bind5 {x : Addr} {a b c d e : Value} (X : (K0 w.params).In s.heap) : BindsTo s (fdOf (ko44 w.params)) ⟨[.ref x, a, b, c, d, e], []⟩ [("self", .ref x), ("text", a), ("tokenIndex", b), ("line", c), ("start", d), ("stop", e)] :=
  binds_K X rfl (lk37 _) rfl rfl rfl

theorem lk51 (P : Params) : (K0 P).lookup 51 = some (ko51 P) := by kernel_rfl
noncomputable abbrev e51 (w : World) (L : Addr) : Env := callEnv (fdOf (ko51 w.params)) L 51
theorem tokClone {n : Nat} {x0 : Addr} {text ix ln st en src : Value} (hA : Ok A (n + 3)) (S : St w O I ms s) (H : IHI I x0 54 (tokM text ix ln st en src)) (h1 : handedIn text = true) (h2 : handedIn ix = true) (h3 : handedIn ln = true) (h4 : handedIn st = true) (h5 : handedIn en = true) (h6 : handedIn src = true)
    (q : ∀ s' x dx, St w O I ((x, .ob (instObj 54 dx)) :: (dx, .dc (upd (tokM text ix ln st en (.ref 36)) "source" src) 7) :: ms) s' → Q (.ref x) s') :
    codeAny (model PG w) A (.call (.ref 51) ⟨[.ref x0], []⟩) (wants Q E) s := by
  refine enter (n := n + 2) (binds := [("self", .ref x0)]) S hA (lk51 _) rfl rfl (by kernel_rfl) (.of_eq (by kernel_rfl)) fun A' L s' E' hA' V S => ?_
  change wpAny _ A' (execs (fnB (stB 3 2)) (e51 w L)) _ _ _
  refine wpAny_execs_cons ?_
  ((with_reducible show wpAny _ _ (exec (.Assign [.Name _ _] _ _) _) _ _ _); refine wpAny_Assign_Name ?_)
  dsimp only
  refine callF (v := .ref 54) (by assumption) V (by kernel_rfl) (gl1 _) (by kernel_rfl) (by decide +kernel) ?_
  ((with_reducible show wpAny _ _ (spliced (backTo _ (starEach (_ :: _) _))) _ _ _); refine wpAny_items_cons ?_)
  ((with_reducible show wpAny _ _ (eval (.Attribute _ _ _) _) _ _ _); refine Attribute_any_ ?_)
  ((with_reducible show wpAny _ _ (eval (.Name _ _) _) _ _ _); refine nL (by assumption) (by assumption) (by kernel_rfl) (by first | with_unfolding_all rfl | with_unfolding_all assumption) ?_ (by decide +kernel))
  refine getA (by assumption) (H.at (by assumption)) (by rfl) (by kernel_rfl) (by assumption) ?_; intro _ _
  ((with_reducible show wpAny _ _ (spliced (backTo _ (starEach (_ :: _) _))) _ _ _); refine wpAny_items_cons ?_)
  ((with_reducible show wpAny _ _ (eval (.Attribute _ _ _) _) _ _ _); refine Attribute_any_ ?_)
  ((with_reducible show wpAny _ _ (eval (.Name _ _) _) _ _ _); refine nL (by assumption) (by assumption) (by kernel_rfl) (by first | with_unfolding_all rfl | with_unfolding_all assumption) ?_ (by decide +kernel))
  refine getA (by assumption) (H.at (by assumption)) (by rfl) (by kernel_rfl) (by assumption) ?_; intro _ _
  ((with_reducible show wpAny _ _ (spliced (backTo _ (starEach (_ :: _) _))) _ _ _); refine wpAny_items_cons ?_)
  ((with_reducible show wpAny _ _ (eval (.Attribute _ _ _) _) _ _ _); refine Attribute_any_ ?_)
  ((with_reducible show wpAny _ _ (eval (.Name _ _) _) _ _ _); refine nL (by assumption) (by assumption) (by kernel_rfl) (by first | with_unfolding_all rfl | with_unfolding_all assumption) ?_ (by decide +kernel))
  refine getA (by assumption) (H.at (by assumption)) (by rfl) (by kernel_rfl) (by assumption) ?_; intro _ _
  ((with_reducible show wpAny _ _ (spliced (backTo _ (starEach (_ :: _) _))) _ _ _); refine wpAny_items_cons ?_)
  ((with_reducible show wpAny _ _ (eval (.Attribute _ _ _) _) _ _ _); refine Attribute_any_ ?_)
  ((with_reducible show wpAny _ _ (eval (.Name _ _) _) _ _ _); refine nL (by assumption) (by assumption) (by kernel_rfl) (by first | with_unfolding_all rfl | with_unfolding_all assumption) ?_ (by decide +kernel))
  refine getA (by assumption) (H.at (by assumption)) (by rfl) (by kernel_rfl) (by assumption) ?_; intro _ _
  ((with_reducible show wpAny _ _ (spliced (backTo _ (starEach (_ :: _) _))) _ _ _); refine wpAny_items_cons ?_)
  ((with_reducible show wpAny _ _ (eval (.Attribute _ _ _) _) _ _ _); refine Attribute_any_ ?_)
  ((with_reducible show wpAny _ _ (eval (.Name _ _) _) _ _ _); refine nL (by assumption) (by assumption) (by kernel_rfl) (by first | with_unfolding_all rfl | with_unfolding_all assumption) ?_ (by decide +kernel))
  refine getA (by assumption) (H.at (by assumption)) (by rfl) (by kernel_rfl) (by assumption) ?_; intro _ _
  ((with_reducible show wpAny _ _ (spliced (backTo _ (starEach [] _))) _ _ _); refine wpAny_items_nil ?_)
  refine ⟨St.kin (by assumption), wpAny_call (tokNew (n := n) hA' (by assumption) (fun x s X => bind5 X) fun s' x dx S => ?_)⟩
  have S := S.rot2
  ((with_reducible show wpAny _ _ (storeName _ _ _) _ _ _); refine sL (by assumption) (by assumption) (by kernel_rfl) ?_; intro _ _)
  with_reducible refine wpAny_execs_cons ?_
  ((with_reducible show wpAny _ _ (exec (.Assign [.Attribute _ _ _] _ _) _) _ _ _); refine plainObj_wpAny_Assign_Attribute ?_)
  ((with_reducible show wpAny _ _ (eval (.Attribute _ _ _) _) _ _ _); refine Attribute_any_ ?_)
  ((with_reducible show wpAny _ _ (eval (.Name _ _) _) _ _ _); refine nL (by assumption) (by assumption) (by kernel_rfl) (by first | with_unfolding_all rfl | with_unfolding_all assumption) ?_ (by decide +kernel))
  dsimp only
  refine getA (by assumption) (H.at (by assumption)) (by rfl) (by kernel_rfl) (by assumption) ?_; intro _ _
  ((with_reducible show wpAny _ _ (eval (.Name _ _) _) _ _ _); refine nL (by assumption) (by assumption) (by kernel_rfl) (by first | with_unfolding_all rfl | with_unfolding_all assumption) ?_ (by decide +kernel))
  refine setA (i := 1) (j := 2) (by assumption) (by rfl) (by rfl) (by kernel_rfl) (by decide) ?_; intro _ _
  with_reducible refine wpAny_execs_cons ?_
  with_reducible refine wpAny_Return_some ?_
  ((with_reducible show wpAny _ _ (eval (.Name _ _) _) _ _ _); refine nL (by assumption) (by assumption) (by kernel_rfl) (by first | with_unfolding_all rfl | with_unfolding_all assumption) ?_ (by decide +kernel))
  dsimp only
  exact q _ _ _ (St.tail (by assumption))
end

end
section
theorem lk73 (P : Params) : (K0 P).lookup 73 = some (ko73 P) := by kernel_rfl
noncomputable abbrev e73 (w : World) (L : Addr) : Env := callEnv (fdOf (ko73 w.params)) L 73
noncomputable def ITok (I : Im) (v : Value) (ix ln : Int) : Prop := ∃ t a b c d, v = .ref t ∧ IHI I t 54 (tokM (.str a b) (.int ix c) (.int ln d) (.int (-1) 220) (.int (-1) 222) (.ref 36))
theorem ITok.le {I J : Im} {v : Value} {ix ln : Int} (H : ITok I v ix ln) (l : Le I J) : ITok J v ix ln := by
  obtain ⟨t, a, b, c, d, e, h⟩ := H
  exact ⟨t, a, b, c, d, e, h.le l⟩
noncomputable def OTok (I : Im) (v : Value) : Option (Int × Int) → Prop
  | none => v = .none
  | some (ix, ln) => ITok I v ix ln
theorem OTok.le {I J : Im} {v : Value} : ∀ {o : Option (Int × Int)}, OTok I v o → Le I J → OTok J v o
  | none, h, _ => h
  | some (_, _), h, l => ITok.le h l
theorem upd_same {m : Str → Option Value} {x : Str} {v : Value} (h : m x = some v) : upd m x v = m := by
  funext y; unfold upd; split
  · rename_i e; rw [e, h]
  · rfl
theorem OTok.handed {I : Im} {v : Value} : ∀ {o : Option (Int × Int)}, OTok I v o → handedIn v = true
  | none, h => by cases h; rfl
  | some (_, _), ⟨_, _, _, _, _, h, _⟩ => by cases h; rfl
theorem upd_upd {m : Str → Option Value} {x : Str} {a b : Value} : upd (upd m x a) x b = upd m x b := by
  funext y; unfold upd; split <;> rfl
theorem upd_comm {m : Str → Option Value} {x y : Str} {a b : Value} (h : (x == y) = false) : upd (upd m x a) y b = upd (upd m y b) x a := by
  have h : x ≠ y := by intro e; rw [e] at h; simp at h
  funext z; unfold upd; by_cases e : z = y
  · subst e; rw [if_pos rfl, if_neg (Ne.symm h), if_pos rfl]
  · rw [if_neg e, if_neg e]
noncomputable def nodeOk (K : Frag) (C : Addr) : Bool := setOk K C "_name" && setOk K C "comments" && setOk K C "_first_token" && setOk K C "_last_token" && attrOk K C "_first_token" && attrOk K C "_last_token"
noncomputable def OLst (I : Im) (c : Value) : Value → Prop := fun v => match c with
  | .none => ∃ a, v = .ref a ∧ ILst I a #[]
  | _ => v = c
theorem OLst.le {I J : Im} {c v : Value} (h : OLst I c v) (l : Le I J) : OLst J c v := by
  cases c <;> first | exact h | (obtain ⟨a, e, x⟩ := h; exact ⟨a, e, x.le l⟩)
noncomputable def nodeM (nm c f l : Value) : Str → Option Value := upd (upd (upd (upd (fun _ => none) "_name" nm) "comments" c) "_first_token" f) "_last_token" l
section
variable {w : World} {O : OsState} {A : Around} {E : Value → Shared → Prop} {s : Shared} {I : Im} {ms : Ms} {Q : Value → Shared → Prop}
theorem iteT {b : Bool} {X Y : Prop} (e : b = true) (h : X) : if b = true then X else Y := by rw [if_pos e]; exact h
theorem iteF {b : Bool} {X Y : Prop} (e : b = false) (h : Y) : if b = true then X else Y := by rw [e]; exact h
theorem listD {env : Env} {pos : Pos} {p : Addr × Cel} (S : St w O I (p :: ms) s) (h : ∀ s' a, St w O I (p :: (a, .ls #[]) :: ms) s' → Q (.ref a) s') : wpAny (model PG w) A (eval (.List [] pos) env) Q E s :=
  wpAny_List (wpAny_items_nil ⟨Nat.zero_le _, h _ _ ((S.push (.ls #[]) ⟨0, IsL.new _ _⟩).swap)⟩)
theorem nodeInit {n : Nat} {x dx C : Addr} {nm c f l : Value} {of ol : Option (Int × Int)} (hC : nodeOk (K0 w.params) C = true) (hA : Ok A (n + 4)) (S : St w O I ((x, .ob (instObj C dx)) :: (dx, .dc (fun _ => none) 0) :: ms) s)
    (hc : c = .none ∨ ∃ a, c = .ref a) (hf : OTok I f of) (hl : OTok I l ol) {pos : List Value} {kw : List (Str × Value)}
    (hb : ∀ s, (K0 w.params).In s.heap → BindsTo s (fdOf (ko73 w.params)) ⟨pos, kw⟩ [("self", .ref x), ("name", nm), ("comments", c), ("first_token", f), ("last_token", l)])
    (q : ∀ s' J c' f' l' k, Le I J → OLst J c c' → OTok J f' of → OTok J l' ol → k ≤ 10 → St w O J ((x, .ob (instObj C dx)) :: (dx, .dc (nodeM nm c' f' l') k) :: ms) s' → Q .none s') :
    codeAny (model PG w) A (.call (.ref 73) ⟨pos, kw⟩) (wants Q E) s := by
  simp only [nodeOk, Bool.and_eq_true] at hC
  obtain ⟨⟨⟨⟨⟨c1, c2⟩, c3⟩, c4⟩, c5⟩, c6⟩ := hC
  refine enter (n := n + 3) S hA (lk73 _) rfl rfl (by kernel_rfl) (hb _ S.kin) fun A' L s' E' hA' V S => ?_
  change wpAny _ A' (execs (fnB (stB 5 0)) (e73 w L)) _ _ _
  have last : ∀ (I₁ : Im) (c' f' : Value) (s' : Shared) (m : Str → Option Value) (k : Nat), Le I I₁ → OLst I₁ c c' → OTok I₁ f' of → k ≤ 7 → m "self" = some (.ref x) →
      St w O I₁ ((L, .ns m) :: (x, .ob (instObj C dx)) :: (dx, .dc (nodeM nm c' f' l) k) :: ms) s' →
      wpAny (model PG w) A' (execs ((fnB (stB 5 0)).drop 6) (e73 w L)) (fun fl s'' => Q (match fl with | .ret v => v | _ => .none) s'') E' s' := by
    intro I₁ c' f' s' m k l1 hc' hf' hk m1 S
    refine wpAny_execs_cons ?_
    with_reducible refine wpAny_If ?_
    ((with_reducible show wpAny _ _ (isTrue (.Compare _ [_] [_] _) _ _) _ _ _); refine wpAny_isTrue_Compare1 ?_)
    ((with_reducible show wpAny _ _ (eval (.Attribute _ _ _) _) _ _ _); refine Attribute_any_ ?_)
    ((with_reducible show wpAny _ _ (eval (.Name _ _) _) _ _ _); refine nL (by assumption) (by assumption) (by kernel_rfl) (by first | with_unfolding_all rfl | with_unfolding_all assumption) ?_ (by decide +kernel))
    refine getA S (S.hi (i := 1) (j := 2) rfl rfl) (by rfl) c6 hl.handed ?_; intro s₁ S
    with_reducible refine cN ?_
    with_reducible refine isNot_none ?_
    with_reducible refine wpAny_truthy_bool ?_
    rcases ol with _ | ⟨ix, ln⟩
    · cases hl
      refine iteF (by rfl) ?_
      with_reducible refine wpAny_execs_nil ?_
      with_reducible refine wpAny_execs_nil ?_
      dsimp only
      exact q _ _ c' f' .none k l1 hc' hf' rfl (by (clear hc; (first | lia | omega))) S.tail
    · obtain ⟨t, ta, tb, tc, td, rfl, H⟩ := id hl
      have H := H.le l1
      refine iteT (by rfl) ?_
      with_reducible refine wpAny_execs_cons ?_
      ((with_reducible show wpAny _ _ (exec (.Assign [.Attribute _ _ _] _ _) _) _ _ _); refine plainObj_wpAny_Assign_Attribute ?_)
      ((with_reducible show wpAny _ _ (eval (.Call (.Attribute _ _ _) _ _ _) _) _ _ _); refine methodCall_KW ?_)
      ((with_reducible show wpAny _ _ (eval (.Attribute _ _ _) _) _ _ _); refine Attribute_any_ ?_)
      ((with_reducible show wpAny _ _ (eval (.Name _ _) _) _ _ _); refine nL (by assumption) (by assumption) (by kernel_rfl) (by first | with_unfolding_all rfl | with_unfolding_all assumption) ?_ (by decide +kernel))
      dsimp only
      refine getA S (S.hi (i := 1) (j := 2) rfl rfl) (by rfl) c6 (by rfl) ?_; intro s₂ S
      refine metA S (H.at S) (by rfl) (f := 51) (by kernel_rfl) ?_
      refine callWith_K0 S.kin (by kernel_rfl) (wpAny_call (tokClone (n := n) hA' S H rfl rfl rfl rfl rfl rfl fun s₃ t' dt S => ?_))
      have S := S.rot2
      ((with_reducible show wpAny _ _ (eval (.Name _ _) _) _ _ _); refine nL (by assumption) (by assumption) (by kernel_rfl) (by first | with_unfolding_all rfl | with_unfolding_all assumption) ?_ (by decide +kernel))
      refine setA (i := 3) (j := 4) S (by rfl) (by rfl) c4 (by (clear hc; (first | lia | omega))) ?_; intro s₄ S
      with_reducible refine wpAny_execs_cons ?_
      ((with_reducible show wpAny _ _ (exec (.Assign [.Attribute _ _ _] _ _) _) _ _ _); refine plainObj_wpAny_Assign_Attribute ?_)
      ((with_reducible show wpAny _ _ (eval (.Attribute _ _ _) _) _ _ _); refine Attribute_any_ ?_)
      ((with_reducible show wpAny _ _ (eval (.Name _ _) _) _ _ _); refine nG (by assumption) (by assumption) (by kernel_rfl) (by first | with_reducible exact gl1 _ | with_reducible exact gl2 _ | with_reducible exact gl3 _ | with_reducible exact gl4 _ | with_reducible exact gl5 _ | with_reducible exact gl6 _ | with_reducible exact gl7 _ | with_reducible exact gl8 _ | with_reducible exact gl9 _ | with_reducible exact gl10 _ | with_reducible exact gl11 _ | with_reducible exact gl12 _ | with_reducible exact gl13 _ | with_reducible exact gl14 _ | with_reducible exact gl15 _ | with_reducible exact gl16 _ | with_reducible exact gl17 _) ?_ (by decide +kernel))
      dsimp only
      refine emptySource (by assumption) fun s₅ S => ?_
      ((with_reducible show wpAny _ _ (eval (.Attribute _ _ _) _) _ _ _); refine Attribute_any_ ?_)
      ((with_reducible show wpAny _ _ (eval (.Name _ _) _) _ _ _); refine nL (by assumption) (by assumption) (by kernel_rfl) (by first | with_unfolding_all rfl | with_unfolding_all assumption) ?_ (by decide +kernel))
      refine getA S (S.hi (i := 3) (j := 4) rfl rfl) (by rfl) c6 (by rfl) ?_; intro s₆ S
      refine setA (i := 1) (j := 2) S (by rfl) (by rfl) (by kernel_rfl) (by decide) ?_; intro s₇ S
      with_reducible refine wpAny_execs_nil ?_
      with_reducible refine wpAny_execs_nil ?_
      dsimp only
      obtain ⟨J, S, l2, H'⟩ := (S.rot2.rot2).fixI
      rw [upd_same (by rfl), upd_same (by rfl)] at H'
      refine q s₇ J c' f' (.ref t') (k + 1) (l1.trans l2) ?_ (hf'.le l2) ⟨t', _, _, _, _, rfl, H'⟩ (by (clear hc; (first | lia | omega))) ?_
      · exact hc'.le l2
      · have S := S.tail
        rwa [nodeM, upd_upd] at S
  have first : ∀ (I₁ : Im) (c' : Value) (s' : Shared) (m : Str → Option Value), Le I I₁ → OLst I₁ c c' → m "self" = some (.ref x) → m "name" = some nm → m "comments" = some c' → m "first_token" = some f → m "last_token" = some l →
      St w O I₁ ((L, .ns m) :: (x, .ob (instObj C dx)) :: (dx, .dc (fun _ => none) 0) :: ms) s' →
      wpAny (model PG w) A' (execs ((fnB (stB 5 0)).drop 1) (e73 w L)) (fun fl s'' => Q (match fl with | .ret v => v | _ => .none) s'') E' s' := by
    intro I₁ c' s' m l1 hc' m1 m2 m3 m4 m5 S
    refine wpAny_execs_cons ?_
    ((with_reducible show wpAny _ _ (exec (.Assign [.Attribute _ _ _] _ _) _) _ _ _); refine plainObj_wpAny_Assign_Attribute ?_)
    ((with_reducible show wpAny _ _ (eval (.Name _ _) _) _ _ _); refine nL (by assumption) (by assumption) (by kernel_rfl) (by first | with_unfolding_all rfl | with_unfolding_all assumption) ?_ (by decide +kernel))
    ((with_reducible show wpAny _ _ (eval (.Name _ _) _) _ _ _); refine nL (by assumption) (by assumption) (by kernel_rfl) (by first | with_unfolding_all rfl | with_unfolding_all assumption) ?_ (by decide +kernel))
    dsimp only
    refine setA (i := 1) (j := 2) (by assumption) (by rfl) (by rfl) (by assumption) (by decide) ?_; intro _ _
    with_reducible refine wpAny_execs_cons ?_
    ((with_reducible show wpAny _ _ (exec (.Assign [.Attribute _ _ _] _ _) _) _ _ _); refine plainObj_wpAny_Assign_Attribute ?_)
    ((with_reducible show wpAny _ _ (eval (.Name _ _) _) _ _ _); refine nL (by assumption) (by assumption) (by kernel_rfl) (by first | with_unfolding_all rfl | with_unfolding_all assumption) ?_ (by decide +kernel))
    ((with_reducible show wpAny _ _ (eval (.Name _ _) _) _ _ _); refine nL (by assumption) (by assumption) (by kernel_rfl) (by first | with_unfolding_all rfl | with_unfolding_all assumption) ?_ (by decide +kernel))
    dsimp only
    refine setA (i := 1) (j := 2) (by assumption) (by rfl) (by rfl) (by assumption) (by decide) ?_; intro _ _
    with_reducible refine wpAny_execs_cons ?_
    ((with_reducible show wpAny _ _ (exec (.Assign [.Attribute _ _ _] _ _) _) _ _ _); refine plainObj_wpAny_Assign_Attribute ?_)
    ((with_reducible show wpAny _ _ (eval (.Name _ _) _) _ _ _); refine nL (by assumption) (by assumption) (by kernel_rfl) (by first | with_unfolding_all rfl | with_unfolding_all assumption) ?_ (by decide +kernel))
    ((with_reducible show wpAny _ _ (eval (.Name _ _) _) _ _ _); refine nL (by assumption) (by assumption) (by kernel_rfl) (by first | with_unfolding_all rfl | with_unfolding_all assumption) ?_ (by decide +kernel))
    dsimp only
    refine setA (i := 1) (j := 2) (by assumption) (by rfl) (by rfl) (by assumption) (by decide) ?_; intro _ _
    with_reducible refine wpAny_execs_cons ?_
    ((with_reducible show wpAny _ _ (exec (.Assign [.Attribute _ _ _] _ _) _) _ _ _); refine plainObj_wpAny_Assign_Attribute ?_)
    ((with_reducible show wpAny _ _ (eval (.Name _ _) _) _ _ _); refine nL (by assumption) (by assumption) (by kernel_rfl) (by first | with_unfolding_all rfl | with_unfolding_all assumption) ?_ (by decide +kernel))
    ((with_reducible show wpAny _ _ (eval (.Name _ _) _) _ _ _); refine nL (by assumption) (by assumption) (by kernel_rfl) (by first | with_unfolding_all rfl | with_unfolding_all assumption) ?_ (by decide +kernel))
    dsimp only
    refine setA (i := 1) (j := 2) (by assumption) (by rfl) (by rfl) (by assumption) (by decide) ?_; intro s₁ S
    have S : St w O I₁ ((L, .ns m) :: (x, .ob (instObj C dx)) :: (dx, .dc (nodeM nm c' f l) 4) :: ms) s₁ := S
    with_reducible refine wpAny_execs_cons ?_
    with_reducible refine wpAny_If ?_
    ((with_reducible show wpAny _ _ (isTrue (.Compare _ [_] [_] _) _ _) _ _ _); refine wpAny_isTrue_Compare1 ?_)
    ((with_reducible show wpAny _ _ (eval (.Attribute _ _ _) _) _ _ _); refine Attribute_any_ ?_)
    ((with_reducible show wpAny _ _ (eval (.Name _ _) _) _ _ _); refine nL (by assumption) (by assumption) (by kernel_rfl) (by first | with_unfolding_all rfl | with_unfolding_all assumption) ?_ (by decide +kernel))
    refine getA S (S.hi (i := 1) (j := 2) rfl rfl) (by rfl) c5 hf.handed ?_; intro s₁ S
    with_reducible refine cN ?_
    with_reducible refine isNot_none ?_
    with_reducible refine wpAny_truthy_bool ?_
    rcases of with _ | ⟨ix, ln⟩
    · cases hf
      refine iteF (by rfl) ?_
      repeat with_reducible refine wpAny_execs_nil ?_
      exact last I₁ c' .none s₁ m 4 l1 hc' rfl (by decide) m1 S
    · obtain ⟨t, ta, tb, tc, td, rfl, H⟩ := id hf
      have H := H.le l1
      refine iteT (by rfl) ?_
      with_reducible refine wpAny_execs_cons ?_
      ((with_reducible show wpAny _ _ (exec (.Assign [.Attribute _ _ _] _ _) _) _ _ _); refine plainObj_wpAny_Assign_Attribute ?_)
      ((with_reducible show wpAny _ _ (eval (.Call (.Attribute _ _ _) _ _ _) _) _ _ _); refine methodCall_KW ?_)
      ((with_reducible show wpAny _ _ (eval (.Attribute _ _ _) _) _ _ _); refine Attribute_any_ ?_)
      ((with_reducible show wpAny _ _ (eval (.Name _ _) _) _ _ _); refine nL (by assumption) (by assumption) (by kernel_rfl) (by first | with_unfolding_all rfl | with_unfolding_all assumption) ?_ (by decide +kernel))
      dsimp only
      refine getA S (S.hi (i := 1) (j := 2) rfl rfl) (by rfl) c5 (by rfl) ?_; intro s₂ S
      refine metA S (H.at S) (by rfl) (f := 51) (by kernel_rfl) ?_
      refine callWith_K0 S.kin (by kernel_rfl) (wpAny_call (tokClone (n := n) hA' S H rfl rfl rfl rfl rfl rfl fun s₃ t' dt S => ?_))
      have S := S.rot2
      ((with_reducible show wpAny _ _ (eval (.Name _ _) _) _ _ _); refine nL (by assumption) (by assumption) (by kernel_rfl) (by first | with_unfolding_all rfl | with_unfolding_all assumption) ?_ (by decide +kernel))
      refine setA (i := 3) (j := 4) S (by rfl) (by rfl) c3 (by (clear hc; (first | lia | omega))) ?_; intro s₄ S
      with_reducible refine wpAny_execs_cons ?_
      ((with_reducible show wpAny _ _ (exec (.Assign [.Attribute _ _ _] _ _) _) _ _ _); refine plainObj_wpAny_Assign_Attribute ?_)
      ((with_reducible show wpAny _ _ (eval (.Attribute _ _ _) _) _ _ _); refine Attribute_any_ ?_)
      ((with_reducible show wpAny _ _ (eval (.Name _ _) _) _ _ _); refine nG (by assumption) (by assumption) (by kernel_rfl) (by first | with_reducible exact gl1 _ | with_reducible exact gl2 _ | with_reducible exact gl3 _ | with_reducible exact gl4 _ | with_reducible exact gl5 _ | with_reducible exact gl6 _ | with_reducible exact gl7 _ | with_reducible exact gl8 _ | with_reducible exact gl9 _ | with_reducible exact gl10 _ | with_reducible exact gl11 _ | with_reducible exact gl12 _ | with_reducible exact gl13 _ | with_reducible exact gl14 _ | with_reducible exact gl15 _ | with_reducible exact gl16 _ | with_reducible exact gl17 _) ?_ (by decide +kernel))
      dsimp only
      refine emptySource (by assumption) fun s₅ S => ?_
      ((with_reducible show wpAny _ _ (eval (.Attribute _ _ _) _) _ _ _); refine Attribute_any_ ?_)
      ((with_reducible show wpAny _ _ (eval (.Name _ _) _) _ _ _); refine nL (by assumption) (by assumption) (by kernel_rfl) (by first | with_unfolding_all rfl | with_unfolding_all assumption) ?_ (by decide +kernel))
      refine getA S (S.hi (i := 3) (j := 4) rfl rfl) (by rfl) c5 (by rfl) ?_; intro s₆ S
      refine setA (i := 1) (j := 2) S (by rfl) (by rfl) (by kernel_rfl) (by decide) ?_; intro s₇ S
      obtain ⟨J, S, l2, H'⟩ := (S.rot2.rot2).fixI
      rw [upd_same (by rfl), upd_same (by rfl)] at H'
      repeat with_reducible refine wpAny_execs_nil ?_
      refine last J c' (.ref t') s₇ m 5 (l1.trans l2) (hc'.le l2) ⟨t', _, _, _, _, rfl, H'⟩ (by decide) m1 ?_
      have e : upd (nodeM nm c' (.ref t) l) "_first_token" (.ref t') = nodeM nm c' (.ref t') l := by unfold nodeM; rw [upd_comm (by decide +kernel), upd_upd]
      rw [← e]; exact S
  refine wpAny_execs_cons ?_
  with_reducible refine wpAny_If ?_
  ((with_reducible show wpAny _ _ (isTrue (.Compare _ [_] [_] _) _ _) _ _ _); refine wpAny_isTrue_Compare1 ?_)
  ((with_reducible show wpAny _ _ (eval (.Name _ _) _) _ _ _); refine nL (by assumption) (by assumption) (by kernel_rfl) (by first | with_unfolding_all rfl | with_unfolding_all assumption) ?_ (by decide +kernel))
  with_reducible refine cN ?_
  with_reducible refine is_none ?_
  with_reducible refine wpAny_truthy_bool ?_
  rcases hc with rfl | ⟨ca, rfl⟩
  · refine iteT (by rfl) ?_
    with_reducible refine wpAny_execs_cons ?_
    ((with_reducible show wpAny _ _ (exec (.Assign [.Name _ _] _ _) _) _ _ _); refine wpAny_Assign_Name ?_)
    dsimp only
    refine listD S fun s₁ a S => ?_
    refine sL S V (by kernel_rfl) fun s₂ S => ?_
    try dsimp only
    repeat with_reducible refine wpAny_execs_nil ?_
    obtain ⟨J, S, l1, H⟩ := (S.swap).fixL
    exact first J (.ref a) _ _ l1 ⟨a, rfl, H⟩ (by with_unfolding_all rfl) (by with_unfolding_all rfl) (by with_unfolding_all rfl) (by with_unfolding_all rfl) (by with_unfolding_all rfl) S
  · refine iteF (by rfl) ?_
    repeat with_reducible refine wpAny_execs_nil ?_
    exact first I (.ref ca) _ _ .rfl rfl (by with_unfolding_all rfl) (by with_unfolding_all rfl) (by with_unfolding_all rfl) (by with_unfolding_all rfl) (by with_unfolding_all rfl) S
end

end
section
noncomputable abbrev kS (w : World) : PySem.KeyKind PG w Str := PySem.strKind PG w
inductive KwP (w : World) : List DictEntry → List (Str × Value) → Prop
  | nil : KwP w [] []
  | cons {k : Str} {t : Tok} {v : Value} {es : List DictEntry} {ex : List (Str × Value)} : KwP w es ex → KwP w (⟨PyData.keyHash w.params k, .str k t, v⟩ :: es) ((k, v) :: ex)
section
variable {w : World} {O : OsState} {A : Around} {E : Value → Shared → Prop} {s : Shared}
theorem KwP.keysOf {es : List DictEntry} {ex : List (Str × Value)} (P : KwP w es ex) : ∀ e ∈ es, ∃ k t, e.key = .str k t ∧ (kS w).is k e.key = true ∧ e.hash = (kS w).hash k ∧ k ∈ ex.map (·.1) := by
  induction P with
  | nil => intro e he; cases he
  | @cons k t v es ex c ih =>
    intro e he
    rcases List.mem_cons.mp he with rfl | he
    · exact ⟨k, t, rfl, strKind_is PG w k t, rfl, .head _⟩
    · obtain ⟨k', t', a, b, c, d⟩ := ih e he; exact ⟨k', t', a, b, c, .tail _ d⟩
theorem KwP.nodup {es : List DictEntry} {ex : List (Str × Value)} (P : KwP w es ex) : (ex.map (·.1)).Nodup → ∀ (i : Nat) (hi : i < es.length) (k : Str), (kS w).is k es[i].key = true → ∀ e ∈ es.take i, (kS w).is k e.key = false := by
  induction P with
  | nil => intro _ i hi; cases hi
  | @cons k t v es ex c ih =>
    intro nd i hi k' hk e he
    obtain ⟨n1, n2⟩ := List.nodup_cons.mp (show (k :: ex.map (·.1)).Nodup from nd)
    cases i with
    | zero => cases he
    | succ i =>
      have hi' : i < es.length := Nat.lt_of_succ_lt_succ hi
      rw [List.take_succ_cons] at he
      rcases List.mem_cons.mp he with rfl | he
      · cases q : (kS w).is k' (.str k t) with
        | false => rfl
        | true =>
          obtain ⟨k2, t2, a, b, _, d⟩ := c.keysOf es[i] (List.getElem_mem hi')
          have e1 : k' = k := (kS w).inj _ _ _ q (strKind_is PG w k t)
          have e2 : k' = k2 := (kS w).inj _ _ _ hk b
          exact absurd (by rw [← e1, e2]; exact d) n1
      · exact ih n2 i hi' k' hk e he
theorem merge_ok {d a : Addr} {es : List DictEntry} {n : Nat} {ex : List (Str × Value)} {Q : Unit → Shared → Prop} (hd : s.heap.get? d = some (dictOf [] 0)) (ha : s.heap.get? a = some (dictOf es n)) (P : KwP w es ex) (hn : (ex.map (·.1)).Nodup)
    (hne : a ≠ d) (hs : (a == sysModules) = false) (hz : es.length ≤ 100)
    (h : ∀ h' k, h'.get? d = some (dictOf es k) → (∀ b o, b ≠ d → s.heap.get? b = some o → h'.get? b = some o) → Q () { s with heap := h' }) : wpAny (model PG w) A (mergeMapping d (.ref a) true) Q E s := by
  have hT : s.TypeIs (.ref a) "dict" := ⟨_, ha, rfl⟩
  unfold mergeMapping
  with_reducible refine wpAny_bind ?_
  refine wpAny_isInstance hT isSubtype_dict_dict ?_
  simp only [if_true]
  refine wpAny_bind (wpAny_specialOf hT F.slot_dict_iter.lookup (wpAny_bind (wpAny_pure ?_)))
  simp only [beq_self_eq_true, hs, Bool.false_eq_true, if_false]
  refine wpAny_bind (wpAny_dictEntries hd rfl ?_)
  simp only [Array.isEmpty, List.size_toArray, List.length_nil, decide_true, if_true]
  refine wpAny_bind (wpAny_dictEntries ha rfl ?_)
  refine wpAny_bind ?_
  rw [← Array.forIn_toList]
  refine wpAny_forIn_list _ (fun rest _ s' => s' = s ∧ ∀ e ∈ rest, e ∈ es) _ ?_ ?_ _ _ ⟨rfl, fun e he => he⟩
  · rintro x rest b s' ⟨rfl, hr⟩
    obtain ⟨k, t, a, _⟩ := P.keysOf x (hr x (.head _))
    rw [a]
    exact wpAny_pure ⟨rfl, fun e he => hr e (.tail _ he)⟩
  rintro b s' ⟨rfl, -⟩
  refine wpAny_bind (wpAny_dictEntries ha rfl ?_)
  refine wpAny_bind (wpAny_dictEpoch ha rfl ?_)
  refine wpAny_bind ?_
  refine wpAny_forIn_list _ (fun rest _ s₁ => ∃ i k h', i ≤ es.length ∧ rest = List.range' i (es.length - i) ∧ s₁ = { s' with heap := h' } ∧ h'.get? d = some (dictOf (es.take i) k) ∧ (∀ b o, b ≠ d → s'.heap.get? b = some o → h'.get? b = some o)) _ ?_ ?_ _ _
    ⟨0, 0, s'.heap, Nat.zero_le _, by rw [Nat.sub_zero, List.range_eq_range']; rfl, rfl, hd, fun _ _ _ e => e⟩
  · rintro x rest b s₁ ⟨i, k, h', hi, hr, rfl, hd', hk'⟩
    have hlt : i < es.length := by
      rcases Nat.lt_or_ge i es.length with z | z
      · exact z
      · rw [show es.length - i = 0 by (clear hne hz; (first | lia | omega))] at hr; cases hr
    rw [show es.length - i = (es.length - (i + 1)) + 1 by (clear hne hz hi; (first | lia | omega)), List.range'_succ] at hr
    obtain ⟨rfl, rfl⟩ := List.cons.inj hr
    have ha' := hk' _ _ hne ha
    obtain ⟨key, tk, e1, e2, e3, e4⟩ := P.keysOf es[x] (List.getElem_mem hlt)
    refine wpAny_bind (wpAny_dictEntries ha' rfl ?_)
    rw [show es.toArray[x]? = some es[x] by simp [hlt]]
    have hno : (es.take x).toArray.findIdx? (fun e => (kS w).is key e.key) = none := by
      rw [List.findIdx?_toArray, List.findIdx?_eq_none_iff]
      exact P.nodup hn x hlt key e2
    have hkO : KeysOf (kS w) (es.take x).toArray := fun e he => by
      obtain ⟨k, _, _, b, c, _⟩ := P.keysOf e (List.mem_of_mem_take (Array.mem_toList_iff.mpr he)); exact ⟨k, b, c⟩
    have find : ∀ Q' : Option Nat → Shared → Prop, Q' none { s' with heap := h' } → wpAny (model PG w) A (dictFind d es[x].key es[x].hash) Q' E { s' with heap := h' } := fun Q' q => by
      rw [e3]; exact wpAny_dictFind_of (knd := kS w) e2 hd' rfl hkO (by rw [hno]; exact q)
    refine wpAny_bind (wpAny_holding (wpAny_bind (find _ ?_)))
    simp only [Option.isSome_none, Bool.false_eq_true, if_false]
    unfold dictPut
    refine wpAny_bind (find _ ?_)
    dsimp only
    refine wpAny_updateDictKeys hd' rfl ?_ (by rw [List.size_toArray, List.length_take, sizeLine_eq]; (clear hne hi e3; (first | lia | omega)))
    have hu : (h'.update d (Obj.mapDictKeys (·.push ⟨es[x].hash, es[x].key, es[x].val⟩))).get? d = some (dictOf (es.take (x + 1)) (k + 1)) := by
      refine (Heap.get?_update_self _ hd' rfl).trans ?_
      have q := List.take_succ_eq_append_getElem hlt
      simp [Obj.mapDictKeys, dictOf]
      exact q.symm
    refine wpAny_bind (wpAny_dictEpoch ((Heap.get?_update_ne _ _ _ _ hne).trans ha') rfl ?_)
    simp only [bne_self_eq_false, Bool.false_eq_true, if_false]
    exact wpAny_pure ⟨x + 1, k + 1, _, hlt, rfl, rfl, hu, fun b o hb e => (Heap.get?_update_ne _ _ _ _ hb).trans (hk' b o hb e)⟩
  · rintro b s₁ ⟨i, k, h', hi, hr, rfl, hd', hk'⟩
    have : i = es.length := by
      rcases Nat.lt_or_ge i es.length with z | z
      · rw [show es.length - i = (es.length - (i + 1)) + 1 by (clear hne hz hi; (first | lia | omega)), List.range'_succ] at hr; cases hr
      · (clear hne hz; (first | lia | omega))
    rw [this, List.take_length] at hd'
    exact wpAny_pure (h h' k hd' hk')

theorem merged_ok {f : Value} {x : Sem Value} {Q : Addr → Shared → Prop}
    (h : ∀ s₁, (∀ b o, s.heap.get? b = some o → s₁.heap.get? b = some o) → s₁.heap.get? s.heap.objs.size = some (dictOf [] 0) → GO O s₁ → wpAny (model PG w) A x (fun v s₂ => ∃ a es n ex, v = .ref a ∧ a ≠ s.heap.objs.size ∧ (a == sysModules) = false ∧ s₂.heap.get? a = some (dictOf es n) ∧ KwP w es ex ∧ (ex.map (·.1)).Nodup ∧ es.length ≤ 100 ∧
      s₂.heap.get? s.heap.objs.size = some (dictOf [] 0) ∧ ∀ h' k, h'.get? s.heap.objs.size = some (dictOf es k) → (∀ b o, b ≠ s.heap.objs.size → s₂.heap.get? b = some o → h'.get? b = some o) → Q s.heap.objs.size { s₂ with heap := h' }) E s₁) (hg : GO O s) :
    wpAny (model PG w) A (mergedKeywords f [(none, x)]) Q E s := by
  unfold mergedKeywords
  have up : ∀ b o, s.heap.get? b = some o → (s.heap.push emptyDict).get? b = some o := fun b o e => Heap.get?_push_of_some _ e
  refine wpAny_bind (wpAny_alloc (wpAny_bind (wpAny_holding ?_)))
  refine wpAny_bind ?_
  rw [List.forIn_cons]
  refine wpAny_bind (wpAny_bind (wpAny_pure (a := ()) ?_))
  refine wpAny_bind (wpAny_mono (h { s with heap := s.heap.push emptyDict } up (Heap.get?_push_size _ rfl) hg) (fun v s₂ h₂ => ?_) fun _ _ y => y)
  obtain ⟨a, es, n, ex, rfl, hne, hs, ha, P, hn, hz, hd, q⟩ := h₂
  refine wpAny_bind (wpAny_onRaise (wpAny_holding (wpAny_tryCatch (wpAny_onRaise (merge_ok hd ha P hn hne hs hz fun h' k hk hk' => ?_)))))
  refine wpAny_pure ?_
  dsimp only
  rw [List.forIn_nil]
  refine wpAny_pure (wpAny_pure (a := ()) (wpAny_pure (q h' k hk hk')))
theorem keywordsIn_ok {f : Value} {d : Addr} {es : List DictEntry} {n : Nat} {ex : List (Str × Value)} {Q : List (Str × Value) → Shared → Prop} (hd : s.heap.get? d = some (dictOf es n)) (P : KwP w es ex) (h : Q ex s) :
    wpAny (model PG w) A (keywordsIn f d) Q E s := by
  unfold keywordsIn
  refine wpAny_bind (wpAny_dictEntries hd rfl ?_)
  refine wpAny_bind ?_
  rw [← Array.forIn_toList]
  refine wpAny_forIn_list _ (fun rest b s' => s' = s ∧ ∃ r, KwP w rest r ∧ ex = b ++ r) _ ?_ ?_ _ _ ⟨rfl, ex, P, rfl⟩
  · rintro x rest b s' ⟨rfl, r, hr, rfl⟩
    cases hr with
    | cons hr => exact wpAny_pure ⟨rfl, _, hr, by simp⟩
  · rintro b s' ⟨rfl, r, hr, rfl⟩
    cases hr
    rw [List.append_nil] at h
    exact wpAny_pure h
/-- arguments with one «**name» behind plain ones -/
theorem evalStar {f : Value} {x y : Sem Value} {rest : List (Bool × Sem Value)} {Q : Args → Shared → Prop}
    (h : wpAny (model PG w) A (spliced ((false, y) :: rest)) (fun vs s₀ => GO O s₀ ∧ ∀ s₁, (∀ b o, s₀.heap.get? b = some o → s₁.heap.get? b = some o) → s₁.heap.get? s₀.heap.objs.size = some (dictOf [] 0) → GO O s₁ → wpAny (model PG w) A x (fun v s₂ => ∃ a es n ex, v = .ref a ∧ a ≠ s₀.heap.objs.size ∧ (a == sysModules) = false ∧ s₂.heap.get? a = some (dictOf es n) ∧ KwP w es ex ∧ (ex.map (·.1)).Nodup ∧ es.length ≤ 100 ∧
      s₂.heap.get? s₀.heap.objs.size = some (dictOf [] 0) ∧ ∀ h', (∀ b o, b ≠ s₀.heap.objs.size → s₂.heap.get? b = some o → h'.get? b = some o) → Q ⟨vs, ex⟩ { s₂ with heap := h' }) E s₁) E s) :
    wpAny (model PG w) A (evalArgs f true ((false, y) :: rest) [(none, x)]) Q E s := by
  have main : wpAny (model PG w) A (spliced ((false, y) :: rest) >>= fun vs => holding vs (do
      let d ← mergedKeywords f [(none, x)]
      let pos ← pure vs
      let kw ← holding (Value.ref d :: pos) (keywordsIn f d)
      pure (⟨pos, kw⟩ : Args))) Q E s := by
    refine wpAny_bind (wpAny_mono h (fun vs s₀ h₀ => ?_) fun _ _ y => y)
    refine wpAny_holding (wpAny_bind (merged_ok (fun s₁ k₁ d₁ g₁ => wpAny_mono (h₀.2 s₁ k₁ d₁ g₁) (fun v s₂ h₂ => ?_) fun _ _ y => y) h₀.1))
    obtain ⟨a, es, n, ex, e, hne, hs, ha, P, hn, hz, hd, q⟩ := h₂
    exact ⟨a, es, n, ex, e, hne, hs, ha, P, hn, hz, hd, fun h' k hk hk' => wpAny_bind (wpAny_pure (wpAny_bind (wpAny_holding (keywordsIn_ok hk P (wpAny_pure (q h' hk'))))))⟩
  have fin : evalArgs f true ((false, y) :: rest) [(none, x)] = (spliced ((false, y) :: rest) >>= fun vs => holding (vs ++ []) (do
      let d ← mergedKeywords f [(none, x)]
      let pos ← pure vs
      let kw ← holding (Value.ref d :: pos) (keywordsIn f d)
      pure (⟨pos, kw⟩ : Args))) := by
    unfold evalArgs
    cases rest <;> rfl
  rw [fin]
  simp only [List.append_nil]
  exact main
end

end
section
theorem wp_peek {α : Type} {K : Frag} {M : Model} {A : Around} {E : Value → Shared → Prop} {Q : α → Shared → Prop} {s : Shared} {o : Obj} (X : K.In s.heap) :
    ∀ (t : Sem α) (g : Addr → Sem α), peekA K ⟨M.prog, M.w.params⟩ t = some (o, g) → wpAny M A (g s.heap.objs.size) Q E { s with heap := s.heap.push o } → wpAny M A t Q E s := by
  intro t
  induction t with
  | rule _ k ih => intro g e q Γ p hΓ; exact ih () g e q Γ p hΓ
  | point _ k ih => intro g e q Γ p hΓ; exact ih () g e q Γ p hΓ
  | ask k ih => intro g e q Γ p hΓ; exact ih _ g e q Γ p hΓ
  | load a _ k ih =>
    intro g e q Γ p hΓ
    simp only [peekA] at e
    split at e
    · rename_i ob ho; exact ⟨ob, X _ _ ho, ih ob g e q Γ p hΓ⟩
    · cases e
  | alloc ob k _ =>
    intro g e q
    obtain ⟨e1, e2⟩ := Prod.mk.inj (Option.some.inj (show some (ob, k) = some (o, g) from e))
    subst e1; subst e2
    exact wpAny_bind (wpAny_alloc q)
  | _ => intro g e; cases e
section
variable {w : World} {O : OsState} {A : Around} {E : Value → Shared → Prop} {s : Shared} {I : Im} {ms : Ms} {L x C dx : Addr} {env : Env} {m : Str → Option Value} {name : Str} {pos : Pos} {v : Value}
theorem kwFill {D : Addr} {Q : PUnit → Shared → Prop} : ∀ (ex : List (Str × Value)) (s : Shared) (es : List DictEntry) (n : Nat), s.heap.get? D = some (dictOf es n) → (∀ e ∈ es, ∃ n t, e.key = .str n t) → (∀ e ∈ es, ∀ x ∈ ex, e.key.isStr x.1 = false) → (ex.map (·.1)).Nodup →
    (∀ h' t es' n', h'.get? D = some (dictOf (es ++ es') n') → KwP w es' ex → (∀ b o, b ≠ D → s.heap.get? b = some o → h'.get? b = some o) → Q ⟨⟩ { s with heap := h', toks := t }) →
    wpAny (model PG w) A (forIn ex PUnit.unit fun x _ => (nsSet D x.1 x.2 >>= fun _ => pure (ForInStep.yield PUnit.unit))) Q E s
  | [], s, es, n, hD, _, _, _, h => by
    rw [List.forIn_nil]
    exact wpAny_pure (h s.heap s.toks [] n (by rw [List.append_nil]; exact hD) .nil fun _ _ _ e => e)
  | x :: r, s, es, n, hD, hk, hs, hn, h => by
    obtain ⟨hn1, hn2⟩ := List.nodup_cons.mp (show (x.1 :: r.map (·.1)).Nodup from hn)
    rw [List.forIn_cons]
    have hno : ∀ e ∈ es, e.key.isStr x.1 = false := fun e he => hs e he x (.head _)
    have e : Obj.putName x.1 (PyData.keyHash w.params x.1) (.str x.1 s.toks) x.2 (dictOf es n) = dictOf (es ++ [⟨PyData.keyHash w.params x.1, .str x.1 s.toks, x.2⟩]) (putN x.1 es n) := by rw [putName_dict, putL_new hno]
    have c : aRefKeyMayBeTheName x.1 es.toArray = false := by
      have : es.toArray.any (·.refKey) = false := by
        rw [← Array.any_toList, List.any_eq_false]
        intro e he
        obtain ⟨n, t, hkey⟩ := hk e he
        unfold DictEntry.refKey
        rw [hkey]; simp
      rw [aRefKeyMayBeTheName_at, this, Bool.and_false]
    refine wpAny_bind (wpAny_bind ?_)
    unfold nsSet
    refine wpAny_bind (wpAny_bind (wpAny_askSetting (wpAny_pure (wpAny_bind (wpAny_mkText (wpAny_bind (wpAny_loadPart hD ?_)))))))
    dsimp only
    rw [c]
    have hu : (s.heap.update D (Obj.putName x.1 (PyData.keyHash w.params x.1) (.str x.1 s.toks) x.2)).get? D = some (dictOf (es ++ [⟨PyData.keyHash w.params x.1, .str x.1 s.toks, x.2⟩]) (putN x.1 es n)) :=
      (Heap.get?_update_self _ hD (by rw [e]; rfl)).trans (congrArg some e)
    refine wpAny_updatePart hD (wpAny_pure ?_)
    dsimp only
    refine kwFill r _ (es ++ [DictEntry.mk (PyData.keyHash w.params x.1) (.str x.1 s.toks) x.2]) (putN x.1 es n) hu (fun e he => ?_) (fun e he y hy => ?_) hn2 fun h' t es' n' a b c' => ?_
    · rcases List.mem_append.mp he with he | he
      · exact hk e he
      · obtain rfl := List.mem_singleton.mp he; exact ⟨_, _, rfl⟩
    · rcases List.mem_append.mp he with he | he
      · exact hs e he y (.tail _ hy)
      · obtain rfl := List.mem_singleton.mp he
        exact beq_eq_false_iff_ne.mpr fun q => hn1 (by rw [q]; exact List.mem_map_of_mem hy)
    · refine h h' t (_ :: es') n' (by rw [List.append_assoc] at a; exact a) (.cons b) fun b o hb q => c' b o hb ((Heap.get?_update_ne _ _ _ _ hb).trans q)
theorem enterG {n : Nat} {f : Addr} {o : Obj} {body : List Stmt} {pos : List Value} {kw : List (Str × Value)} {keys : List Str} {Q : Value → Shared → Prop}
    (S : St w O I ms s) (hA : Ok A (n + 1)) (ho : (K0 w.params).lookup f = some o) (hd : o.data = .func (fdOf o)) (hb : (fdOf o).body = .stmts body) (hok : okFn (K0 w.params) (fdOf o) keys = true)
    (h : wpAny (model PG w) A.in1 (bindArgs (fdOf o) ⟨pos, kw⟩) (fun binds s₁ => binds.map (·.1) = keys ∧ ∃ ms₁, St w O I ms₁ s₁ ∧ ∀ A' L s' E', Ok A' n → EnvOk (callEnv (fdOf o) L f) L → St w O I ((L, .ns fun x => binds.reverse.lookup x) :: ms₁) s' →
      _root_.PySem.wpAt (model PG w) A' (.func body (callEnv (fdOf o) L f)) (execs body (callEnv (fdOf o) L f)) (fun fl s'' => Q (match fl with | .ret v => v | _ => .none) s'') E' s') (fun _ _ => False) s) :
    codeAny (model PG w) A (.call (.ref f) ⟨pos, kw⟩) (wants Q E) s := by
  simp only [okFn, Bool.and_eq_true, beq_iff_eq] at hok
  obtain ⟨⟨hcell, hloc⟩, ⟨⟨⟨⟨k1, k2⟩, k3⟩, k4⟩, k5⟩, k6⟩ := hok
  have k4 : (fdOf o).scope.kind = .function := by
    revert k4; cases (fdOf o).scope.kind <;> intro k4 <;> first | rfl | cases k4
  have hcell : ∀ x ∈ (fdOf o).scope.names, x.2 ≠ .cell := fun x hx e => by have := List.all_eq_true.mp hcell x hx; rw [e] at this; cases this
  refine codeAny_call_function hA.room (S.kin _ _ ho) hd k2 k3 hb (codeRec_of S.kin k1) (wpAny_mono h (fun binds s₁ h₁ => ?_) fun _ _ z => z.elim)
  obtain ⟨rfl, ms₁, S₁, h₁⟩ := h₁
  have hloc : ∀ x ∈ binds, (fdOf o).scope.names.lookup x.1 = some .local := fun x hx => by
    have := List.all_eq_true.mp hloc x.1 (List.mem_map_of_mem hx)
    revert this; cases (fdOf o).scope.names.lookup x.1 with
    | none => intro q; cases q
    | some k => cases k <;> intro q <;> first | rfl | cases q
  refine wpAny_newFunctionEnv hcell hloc (fun h₀ hn hs => ?_) k4
  have hk : ∀ b o, s₁.heap.get? b = some o → h₀.get? b = some o := fun b o e => hs.extBut b o (Nat.ne_of_lt (Heap.lt_size e)) (Heap.get?_push_of_some _ e)
  have S2 : St w O I ((s₁.heap.objs.size, .ns fun x => binds.reverse.lookup x) :: ms₁) { s₁ with heap := h₀, toks := s₁.toks + binds.length } := S₁.new (Nat.le_refl _) hk hn S₁.gens
  refine ⟨S2.nolimit, ks_codeAny_funcAt ?_⟩
  exact h₁ _ _ _ _ (hA.call _) ⟨rfl, k5, k6, k4⟩ S2
theorem enterKw {n : Nat} {f : Addr} {o : Obj} {body : List Stmt} {pos : List Value} {kw front ex : List (Str × Value)} {nm : Str} {Q : Value → Shared → Prop}
    (S : St w O I ms s) (hA : Ok A (n + 1)) (ho : (K0 w.params).lookup f = some o) (hd : o.data = .func (fdOf o)) (hb : (fdOf o).body = .stmts body) (hok : okFn (K0 w.params) (fdOf o) (front.map (·.1) ++ [nm]) = true)
    (hp : peekA (K0 w.params) ⟨PG, w.params⟩ (bindArgs (fdOf o) ⟨pos, kw⟩) = some (dictOf [] 0, fun D => (forIn ex PUnit.unit (fun x _ => (nsSet D x.1 x.2 >>= fun _ => pure (ForInStep.yield PUnit.unit))) >>= fun _ => pure (front ++ [(nm, Value.ref D)]))))
    (hn : (ex.map (·.1)).Nodup)
    (h : ∀ A' L s' E' D es n', Ok A' n → EnvOk (callEnv (fdOf o) L f) L → KwP w es ex → (D == sysModules) = false → St w O I ((L, .ns fun x => (front ++ [(nm, Value.ref D)]).reverse.lookup x) :: (D, .ob (dictOf es n')) :: ms) s' →
      _root_.PySem.wpAt (model PG w) A' (.func body (callEnv (fdOf o) L f)) (execs body (callEnv (fdOf o) L f)) (fun fl s'' => Q (match fl with | .ret v => v | _ => .none) s'') E' s') :
    codeAny (model PG w) A (.call (.ref f) ⟨pos, kw⟩) (wants Q E) s := by
  refine enterG S hA ho hd hb hok (wp_peek S.kin _ _ hp ?_)
  refine wpAny_bind (kwFill ex _ [] 0 (Heap.get?_push_size _ rfl) (fun _ h => (nomatch h)) (fun _ h => (nomatch h)) hn fun h' t es' n' a b c => wpAny_pure ?_)
  rw [List.nil_append] at a
  refine ⟨by simp, (s.heap.objs.size, .ob (dictOf es' n')) :: ms, ?_, fun A' L s' E' hA' V S' => h A' L s' E' _ es' n' hA' V b ?_ S'⟩
  · refine S.new (Nat.le_refl _) (fun b o e => c b o (Nat.ne_of_lt (Heap.lt_size e)) (Heap.get?_push_of_some _ e)) a S.gens
  · have : 863 < s.heap.objs.size := Heap.lt_size (S.kin 863 (ko863 w.params) (by kernel_rfl))
    refine beq_eq_false_iff_ne.mpr fun (q : s.heap.objs.size = 1) => ?_
    (first | lia | omega)
end

end
section
theorem St.drop0 {w : World} {O : OsState} {I : Im} {ms : Ms} {s s' : Shared} {d : Addr} {c : Cel} (S : St w O I ((d, c) :: ms) s) (k : ∀ b o, b ≠ d → s.heap.get? b = some o → s'.heap.get? b = some o) (g : GO O s') : St w O I ms s' := by
  refine ⟨S.base, fun a o e => k a o (S.ne (i := 0) rfl e) (S.imm a o e), fun p hp => (S.tail.mu p hp).keep fun o e => k _ _ (fun q => ?_) e, S.tail.off, S.tail.nd, g⟩
  exact (List.nodup_cons.mp S.nd).1 (List.mem_map.mpr ⟨p, hp, q⟩)
theorem callWith_any {M : Model} {A : Around} {E : Value → Shared → Prop} {s : Shared} {pos : Pos} {f : Value} {first : List Value} {Q : Value → Shared → Prop} {P : Heap → Prop} {args : List (Bool × Sem Value)} {keywords : List (Option Str × Sem Value)}
    (hk : ∀ h, P h → ∃ k, Looks M h (keeperOf f) k)
    (h : wpAny M A (evalArgs f true args keywords) (fun a s₁ => P s₁.heap ∧ wpAny M A (call f (first ++ a.pos) a.kw) Q E s₁) E s) : wpAny M A (callWith pos f first args keywords) Q E s := by
  unfold callWith
  refine wpAny_bind (wpAny_holding (wpAny_mono h (fun a s₁ h₁ => wpAny_bind (wpAny_standAt ?_)) fun _ _ x => x))
  obtain ⟨k, L⟩ := hk _ h₁.1
  refine wpAny_bind (L.here ?_)
  have tail : ∀ {t : Sem Value}, wpAny M A t Q E s₁ → wpAny M A (t >>= fun r => holding [r] point >>= fun _ => pure r) Q E s₁ :=
    fun ht => wpAny_bind (wpAny_mono ht (fun r s₂ hr => wpAny_bind (wpAny_holding (wpAny_point (wpAny_pure hr)))) fun _ _ x => x)
  have marked (mk : Value) : wpAny M A (callMarked mk f (first ++ a.pos) a.kw) Q E s₁ := by unfold callMarked; exact Calls.wpAny_keep h₁.2
  split <;> first
    | exact tail h₁.2 | exact tail (marked _) | exact tail (wpAny_operating h₁.2)
    | (split <;> first | exact tail h₁.2 | exact tail (marked _))
noncomputable def supOk (K : Frag) (C D f2 : Addr) : Bool :=
  ks_superIn K C D "__init__" == some (some (.ref f2)) && typeIn K (.ref f2) == some (.type "function") && fnIn K f2 && (clsIn K C).isSome && nsIn K cStatics "thirdparty.any" == some none && mroIn K C (.ref D) == some true && (clsIn K D).isSome
section
variable {w : World} {O : OsState} {A : Around} {E : Value → Shared → Prop} {s : Shared} {I : Im} {ms : Ms} {L x C D f2 : Addr} {env : Env} {m : Str → Option Value} {Q : Value → Shared → Prop} {pos : Pos}
theorem HI.ne {cd : ClassData} (S : St w O I ms s) (H : HI s.heap x C m) {D : Addr} (hc : clsIn (K0 w.params) D = some cd) : x ≠ D := by
  rintro rfl
  obtain ⟨dx, es, n, e, _⟩ := H
  unfold clsIn at hc
  split at hc
  · rename_i ho
    have := S.kin _ _ ho
    rw [e] at this; cases this
  · cases hc
/-- a call of a built-in type by its name -/
theorem callTy {f : Str} {T : String} {np : Pos} {e : Expr} {rest : List Expr} (S : St w O I ms s) (V : EnvOk env L) (hx : env.kindOf f = some .globalImplicit) (hv : nsIn (K0 w.params) mainGlobals f = some none) (hb : bootBuiltins f = some (.type T)) (hn : f ≠ "__name__") (hd : (f == ("__debug__" : Str)) = false)
    (h : wpAny (model PG w) A (spliced (backTo pos (starEach (e :: rest) env))) (fun vs s₁ => wpAny (model PG w) A (call (.type T) vs) Q E s₁) E s)
    (he : starEach (e :: rest) env = (false, eval e env) :: starEach rest env := by rfl) (hp : (backTo pos (starEach rest env)).any (·.1) = false := by rfl) :
    wpAny (model PG w) A (eval (.Call (.Name f np) (e :: rest) [] pos) env) Q E s :=
  wpAny_Call_Name_kw (nB S V hx hv hb (by rw [he] at h ⊢; exact PyProof.Rows.callWith_type (by show (false || (backTo pos (starEach rest env)).any (·.1)) = false; rw [hp]; rfl) (Calls.evalArgs_plain h)) hd hn)
/-- the making of a super object -/
theorem superNew (S : St w O I ms s) (H : HI s.heap x C m) (hC : supOk (K0 w.params) C D f2 = true) (h : ∀ s' so, St w O I ((so, .ob (ks_superObj D x C)) :: ms) s' → HI s'.heap x C m → Q (.ref so) s') :
    wpAny (model PG w) A (call (.type "super") [.ref D, .ref x]) Q E s := by
  simp only [supOk, Bool.and_eq_true, beq_iff_eq] at hC
  obtain ⟨⟨⟨⟨⟨⟨c1, c2⟩, c3⟩, c4⟩, c5⟩, c6⟩, c7⟩ := hC
  obtain ⟨cdD, hD⟩ := Option.isSome_iff_exists.mp c7
  obtain ⟨oD, hD1, hD2⟩ : ∃ oD, s.heap.get? D = some oD ∧ oD.data = .cls cdD := by
    unfold clsIn at hD
    split at hD
    · rename_i c d cd' sl ho
      cases hD
      exact ⟨_, S.kin _ _ ho, rfl⟩
    · cases hD
  obtain ⟨hh, g, d, t, os⟩ := s
  obtain ⟨dx, es, n, e, e2, D2⟩ := id H
  refine ks_wpAny_call_super hD1 hD2 e rfl (fun c e => by cases e) (looks_mroIn S.kin c6) (fun h' e' k => ?_)
  exact h _ _ (S.new (s' := ⟨h', g, d, t, os⟩) (Nat.le_refl _) k e' S.gens) ⟨dx, es, n, k _ _ e, k _ _ e2, D2⟩
theorem getAttr_super {h : Heap} {g : Array GenState} {d : Drawn} {t : Nat} {os : OsState} {so D x C f : Addr} {of : Obj} {l₀ l : List Value} {K : Frag} {name : Str} {Q : Value → Shared → Prop}
    (hso : h.get? so = some (ks_superObj D x C)) (hno : Looks (model PG w) h (opaqueClassAbove (.ref C)) none)
    (hC : Looks (model PG w) h (mroOf (.ref C)) l₀) (hl : (l₀.dropWhile (· != .ref D)).drop 1 = l) (X : K.In h)
    (hf : alongIn K name l = some (some (.ref f))) (hfo : h.get? f = some of) (hfc : of.cls = .type "function") (hxC : x ≠ C) (hn : (name == ("__class__" : Str)) = false)
    (hq : Q (.ref h.objs.size) ⟨h.push { cls := .type "method", data := .fields #[.ref f, .ref x] }, g, d, t + 1, os⟩) :
    wpAny (model PG w) A (getAttr (.ref so) name true) Q E ⟨h, g, d, t, os⟩ := by
  have hlk := F.ks_slot_super_ga.lookup
  have hT : ∀ t', (⟨h, g, d, t', os⟩ : Shared).TypeIs (.ref so) "super" := fun _ => ⟨_, hso, rfl⟩
  unfold getAttr getAttrBy
  refine wpAny_bind (wpAny_mkText (wpAny_holding (wpAny_bind (wpAny_typeOf (hT _) (wpAny_bind (wpAny_of_eq hlk ?_))))))
  show wpAny _ _ (getAttrByItsOwn (.ref so) (.str name t) (.type "super") (.builtin "super.__getattribute__") true true) _ _ _
  unfold getAttrByItsOwn hookBefore callGetattribute boundAndCalled
  refine wpAny_bind (wpAny_of_eq (show (if onTheHeap (.type "super") then typeLookup (.type "super") "__getattr__" else pure none) = pure none from rfl) ?_)
  refine wpAny_bind (wpAny_attempt (wpAny_holding ?_))
  show wpAny _ _ (bindSpecial (.builtin "super.__getattribute__") (.ref so) >>= _) _ _ _
  refine wpAny_bind (wpAny_of_eq (F.ks_slot_super_ga.bind _) ?_)
  refine wpAny_mono (Q := fun v s' => v = .ref h.objs.size ∧ s' = ⟨h.push { cls := .type "method", data := .fields #[.ref f, .ref x] }, g, d, t + 1, os⟩) (E := fun _ _ => False)
    (wpAny_call_entry F.ks_slot_super_ga (hT _) F.ks_entry_super_ga (ks_wpAny_super_ga hso hno hC hl X hf hfo hfc hxC hn ⟨_, rfl, rfl, rfl⟩) (F.ks_gaArgs_super _ _)) (fun v s' hv => ?_) fun _ _ z => z.elim
  obtain ⟨rfl, rfl⟩ := hv
  exact wpAny_pure hq
theorem superM {i : Nat} {so : Addr} {args : List (Bool × Sem Value)} {kws : List (Option Str × Sem Value)} (S : St w O I ms s) (hso : ms[i]? = some (so, .ob (ks_superObj D x C))) (H : HI s.heap x C m) (hC : supOk (K0 w.params) C D f2 = true)
    (h : ∀ s' q, St w O I ((q, .ob (methodObj (.ref f2) (.ref x))) :: ms) s' → wpAny (model PG w) A (evalArgs (.ref q) true args kws) (fun a s₁ => (∃ I₁ ms₁, St w O I₁ ((q, .ob (methodObj (.ref f2) (.ref x))) :: ms₁) s₁) ∧ codeAny (model PG w) A (.call (.ref f2) ⟨.ref x :: a.pos, a.kw⟩) (wants Q E) s₁) E s') :
    wpAny (model PG w) A (getAttr (.ref so) "__init__" true) (fun fv s₂ => wpAny (model PG w) A (callWith pos fv [] args kws) Q E s₂) E s := by
  simp only [supOk, Bool.and_eq_true, beq_iff_eq] at hC
  obtain ⟨⟨⟨⟨⟨⟨c1, c2⟩, c3⟩, c4⟩, c5⟩, c6⟩, c7⟩ := hC
  obtain ⟨cd, hc⟩ := Option.isSome_iff_exists.mp c4
  have hx := H.ne S hc
  have hs1 : s.heap.get? so = some (ks_superObj D x C) := S.get hso
  obtain ⟨of, hof, hofc⟩ : ∃ of, s.heap.get? f2 = some of ∧ of.cls = .type "function" := by
    have ht' : ((K0 w.params).lookup f2).map (·.cls) = some (.type "function") := c2
    cases z : (K0 w.params).lookup f2 with
    | none => rw [z] at ht'; cases ht'
    | some of => rw [z] at ht'; exact ⟨of, S.kin _ _ z, Option.some.inj ht'⟩
  have hm := c1
  unfold ks_superIn at hm
  rw [hc] at hm
  have S2 := (S.push (.ob (methodObj (.ref f2) (.ref x))) (x := methodObj (.ref f2) (.ref x)) (Heap.get?_push_size _ rfl)).toks (t := s.toks + 1)
  obtain ⟨hh, g, d, t, os⟩ := s
  refine getAttr_super hs1 (looks_opaque S.kin c5) (l₀ := cd.mro) ?_ rfl S.kin hm hof hofc hx (by decide +kernel) ?_
  · exact fun A Q E s k q => wpAny_bind ((looks_clsIn S.kin hc) A _ E s k (wpAny_pure q))
  · refine callWith_any (P := fun h => h.get? hh.objs.size = some (methodObj (.ref f2) (.ref x)) ∧ (K0 w.params).In h) (fun h X => ?_) (wpAny_mono (h _ _ S2) (fun a s₁ h₁ => ?_) fun _ _ y => y)
    · obtain ⟨k, _, L⟩ := keeps_M (M := model PG w) (self := .ref x) c3 h X
      exact ⟨k, L⟩
    · obtain ⟨⟨I₁, ms₁, S₁⟩, h₁⟩ := h₁
      exact ⟨⟨S₁.get (i := 0) rfl, S₁.kin⟩, wpAny_call (ks_codeAny_call_bound (S₁.get (i := 0) rfl) h₁)⟩
/-- «base.name(.., **kw)» -/
theorem methodStar {c : Code} {o : Expr} {name : Str} {apos pos : Pos} {args : List Expr} {kws : List Keyword}
    (h : _root_.PySem.wpAt (model PG w) A c (attributeBase o name env (eval o env)) (fun ov s₁ => wpAny (model PG w) A (getAttr ov name true) (fun fv s₂ => wpAny (model PG w) A (callWith pos fv [] (backTo pos (starEach args env)) (backToKw pos (keywordEach kws env))) Q E s₂) E s₁) E s)
    (hform : methodCallForm (args.length + kws.length) (backTo pos (starEach args env)) (backToKw pos (keywordEach kws env)) = false := by rfl) :
    _root_.PySem.wpAt (model PG w) A c (eval (.Call (.Attribute o name apos) args kws pos) env) Q E s := by
  have he : eval (.Call (.Attribute o name apos) args kws pos) env = (do
    let ov ← attributeBase o name env (eval o env)
    standAt apos.atName
    methodCall o name apos pos env ov (args.length + kws.length) (backTo pos (starEach args env)) (backToKw pos (keywordEach kws env))) := rfl
  rw [he]
  refine _root_.PySem.wpAt_bind (ks_wpAt_mono h (fun ov s₁ h₁ => _root_.PySem.wpAt_of_wpAny (wpAny_bind (wpAny_standAt ?_))) fun _ _ x => x)
  unfold methodCall calleeOf methodCallPos
  rw [hform]
  refine wpAny_bind (wpAny_holding (wpAny_bind (wpAny_mono h₁ (fun fv s₂ h₂ => wpAny_pure ?_) fun _ _ x => x)))
  exact wpAny_bind (wpAny_pure h₂)
end

end
section
noncomputable def sup0Ok (K : Frag) (fd : FuncData) (D : Addr) : Bool :=
  (match fd.scope.names.lookup ("super" : Str) with | some .globalImplicit => true | _ => false) && (match fd.scope.names.lookup ("__class__" : Str) with | some .free => true | _ => false) && isLoc (fd.scope.names.lookup ("self" : Str)) &&
  ((fd.params.posonlyargs ++ fd.params.args).head?.map (·.arg) == some ("self" : Str)) && (match fd.code with | .ref c => (match K.lookup c with | some ⟨_, _, Data.fields vs, _⟩ => (match vs.toList[2]? with | some (Value.str file _) => PG.main.file == file | _ => false) | _ => false) | _ => false) &&
  (match fd.closure with | [(n, c)] => n == ("__class__" : Str) && (match K.lookup c with | some ⟨_, _, .cell (some (.ref d)), _⟩ => d == D | _ => false) | _ => false) && (PG.main.scope.names.lookup ("super" : Str)).isNone && (match fd.scope.kind with | .function => true | _ => false)
section
variable {w : World} {O : OsState} {A : Around} {E : Value → Shared → Prop} {s : Shared} {I : Im} {ms : Ms} {L x C D f f2 : Addr} {m m' : Str → Option Value} {Q : Value → Shared → Prop}
theorem super0 {o : Obj} {body : List Stmt} {p0 p1 : Pos} {attr : Str} {whole : Sem Value} (S : St w O I ((L, .ns m') :: ms) s) (V : EnvOk (callEnv (fdOf o) L f) L) (ho : (K0 w.params).lookup f = some o) (hd : o.data = .func (fdOf o)) (h0 : sup0Ok (K0 w.params) (fdOf o) D = true)
    (hv : m' "self" = some (.ref x)) (H : HI s.heap x C m) (hC : supOk (K0 w.params) C D f2 = true) (hat : (attr == ("__class__" : Str)) = false)
    (h : ∀ s' so, St w O I ((so, .ob (ks_superObj D x C)) :: (L, .ns m') :: ms) s' → HI s'.heap x C m → Q (.ref so) s') :
    _root_.PySem.wpAt (model PG w) A (.func body (callEnv (fdOf o) L f)) (attributeBase (.Call (.Name "super" p0) [] [] p1) attr (callEnv (fdOf o) L f) whole) Q E s := by
  simp only [sup0Ok, Bool.and_eq_true, beq_iff_eq] at h0
  obtain ⟨⟨⟨⟨⟨⟨⟨a1, a2⟩, a3⟩, a4⟩, a5⟩, a6⟩, a7⟩, a8⟩ := h0
  have e1 : (callEnv (fdOf o) L f).kindOf "super" = some .globalImplicit := by
    show (fdOf o).scope.names.lookup ("super" : Str) = _
    revert a1; split <;> intro a1 <;> first | assumption | cases a1
  have e2 : (callEnv (fdOf o) L f).kindOf "__class__" = some .free := by
    show (fdOf o).scope.names.lookup ("__class__" : Str) = _
    revert a2; split <;> intro a2 <;> first | assumption | cases a2
  have e3 : (callEnv (fdOf o) L f).kindOf "self" = some .local := by
    show (fdOf o).scope.names.lookup ("self" : Str) = _
    revert a3; unfold isLoc; split <;> intro a3 <;> first | assumption | cases a3
  obtain ⟨ar, h4, h4'⟩ := Option.map_eq_some_iff.mp a4
  obtain ⟨cda, oc, vs, file, tf, b1, b2, b3, b4, b5⟩ : ∃ cda oc vs file tf, (fdOf o).code = .ref cda ∧ s.heap.get? cda = some oc ∧ oc.data = .fields vs ∧ vs[2]? = some (.str file tf) ∧ (PG.main.file == file) = true := by
    revert a5
    split
    · rename_i c hc
      split
      · rename_i cl d vs sl hlk
        split
        · rename_i file tf hv2
          intro q
          exact ⟨c, _, vs, file, tf, hc, S.kin _ _ hlk, rfl, by rw [← Array.getElem?_toList]; exact hv2, q⟩
        · intro q; cases q
      · intro q; cases q
    · intro q; cases q
  obtain ⟨cc, oc2, c1, c2, c3⟩ : ∃ cc oc2, (fdOf o).closure.lookup ("__class__" : Str) = some cc ∧ s.heap.get? cc = some oc2 ∧ oc2.data = .cell (some (.ref D)) := by
    revert a6
    split
    · rename_i n c hc
      intro q
      obtain ⟨q1, q2⟩ := Bool.and_eq_true_iff.mp q
      revert q2
      split
      · rename_i cl d dd sl hlk
        intro q2
        rw [beq_iff_eq.mp q2] at hlk
        refine ⟨c, _, ?_, S.kin _ _ hlk, rfl⟩
        rw [hc, List.lookup_cons, beq_iff_eq.mp q1]; simp
      · intro q; cases q
    · intro q; cases q
  obtain ⟨cdD, oD, hD1, hD2⟩ : ∃ cdD oD, s.heap.get? D = some oD ∧ oD.data = .cls cdD := by
    have c7 := (Bool.and_eq_true_iff.mp hC).2
    obtain ⟨cdD, hD⟩ := Option.isSome_iff_exists.mp c7
    unfold clsIn at hD
    split at hD
    · rename_i c d cd' sl ho
      exact ⟨_, _, S.kin _ _ ho, rfl⟩
    · cases hD
  obtain ⟨og, es, ep, g1, g2, g3⟩ := S.base.g
  have G : s.heap.Ns mainGlobals (nsFind es) := ⟨og, es, ep, S.imm _ _ g1, g2, g3, fun _ => rfl⟩
  obtain ⟨o', es', ep', e', h1', h2', h3'⟩ := S.base.b
  have B : s.heap.Ns builtinsNs (nsFind es') := ⟨o', es', ep', S.imm _ _ e', h1', h2', fun _ => rfl⟩
  refine ks_wpAt_super_base e1 e2 hat rfl (S.kin _ _ ho) hd h4 b1 b2 b3 b4 b5 (by simpa using a7) ?_
  refine ks_loadName_global V.knd e1 (loadGlobal_builtin (V.glob.symm ▸ G) (mg_none_of S.kin G (bl7 _)) (V.blt.symm ▸ B) ((h3' _ (by decide +kernel)).trans bv7) ⟨rfl, ?_⟩)
  refine wpAny_loadName_free V.knd e2 c1 ⟨_, c2, c3⟩ ?_
  rw [h4']
  refine wpAny_loadName_local V.knd e3 (V.loc.symm ▸ S.get (i := 0) rfl) hv ?_
  refine ks_wpAny_isType_cls (g := s.gens) (d := s.drawn) (t := s.toks) (os := s.os) hD1 hD2 ⟨rfl, ?_⟩
  exact superNew S H hC h
end

end
section
theorem lk167 (P : Params) : (K0 P).lookup 167 = some (ko167 P) := by kernel_rfl
theorem lk66 (P : Params) : (K0 P).lookup 66 = some (ko66 P) := by kernel_rfl
noncomputable abbrev e167 (w : World) (L : Addr) : Env := callEnv (fdOf (ko167 w.params)) L 167
inductive Kw : Value → Value → Value → List (Str × Value) → Prop
  | no : Kw .none .none .none []
  | one (f : Value) : Kw .none f .none [("first_token", f)]
  | all (c f l : Value) : Kw c f l [("comments", c), ("first_token", f), ("last_token", l)]
section
variable {w : World} {O : OsState} {A : Around} {E : Value → Shared → Prop} {s : Shared} {I : Im} {ms : Ms} {L x C D dx : Addr} {nm c f l : Value} {kw : List (Str × Value)} {Q : Value → Shared → Prop}
theorem Kw.nodup (K : Kw c f l kw) : (kw.map (·.1)).Nodup := by cases K <;> simp <;> decide +kernel
theorem Kw.len {es : List DictEntry} (K : Kw c f l kw) (h : KwP w es kw) : es.length ≤ 100 := by
  have : es.length = kw.length := by
    clear K; induction h with
    | nil => rfl
    | cons _ ih => simp [ih]
  cases K <;> simp_all
theorem nodeBinds (K : Kw c f l kw) (s : Shared) (X : (K0 w.params).In s.heap) : BindsTo s (fdOf (ko73 w.params)) ⟨[.ref x, nm], kw⟩ [("self", .ref x), ("name", nm), ("comments", c), ("first_token", f), ("last_token", l)] := by
  cases K
  · exact binds_K X rfl (lk66 _) rfl rfl rfl
  · exact binds_K X rfl (lk66 _) rfl rfl rfl
  · exact binds_K X rfl (lk66 _) rfl rfl rfl
/-- the arguments «(nm, **kwargs)» of a super's __init__ -/
theorem superKw {m : Str → Option Value} {q Dk : Addr} {es : List DictEntry} {n : Nat} {bm : Obj} {fv : Value} {y z : Sem Value} {Qa : Args → Shared → Prop} (S : St w O I ((q, .ob bm) :: (L, .ns m) :: ms) s)
    (hk : (Dk, .ob (dictOf es n)) ∈ ms) (P : KwP w es kw) (K : Kw c f l kw) (hs : (Dk == sysModules) = false)
    {PV : Value → Prop} (hy : ∀ s Q', (∃ ms₁, St w O I ((L, .ns m) :: ms₁) s) → (∀ s' v, PV v → (∀ ms, St w O I ms s → St w O I ms s') → Q' v s') → wpAny (model PG w) A y Q' E s)
    (hz : ∀ s Q', (∃ ms₁, St w O I ((L, .ns m) :: ms₁) s) → Q' (.ref Dk) s → wpAny (model PG w) A z Q' E s)
    (h : ∀ s' v, PV v → St w O I ((q, .ob bm) :: (L, .ns m) :: ms) s' → Qa ⟨[v], kw⟩ s') : wpAny (model PG w) A (evalArgs fv true [(false, y)] [(none, z)]) Qa E s := by
  refine evalStar (spliced_cons (hy _ _ ⟨_, S.swap⟩ fun s₁ v pv k => spliced_nil ⟨(k _ S).gens, fun s₂ up d g => ?_⟩))
  have S1 := (k _ S)
  have S2 : St w O I ((s₁.heap.objs.size, .ob (dictOf [] 0)) :: (q, .ob bm) :: (L, .ns m) :: ms) s₂ := S1.new (Nat.le_refl _) up d g
  refine hz _ _ ⟨_, S2.rot2⟩ ⟨Dk, es, n, kw, rfl, ?_, hs, S2.mu (Dk, .ob (dictOf es n)) (.tail _ (.tail _ (.tail _ hk))), P, K.nodup, K.len P, d, fun h' k' => ?_⟩
  · exact Nat.ne_of_lt (S1.lt (p := (Dk, .ob (dictOf es n))) (.tail _ (.tail _ hk)))
  · exact h _ v pv (S2.drop0 k' S2.gens)
theorem exprInit {n : Nat} {of ol : Option (Int × Int)} (hC : nodeOk (K0 w.params) C = true) (hC2 : supOk (K0 w.params) C 170 73 = true) (hC3 : setOk (K0 w.params) C "wrapped" = true) (hA : Ok A (n + 5)) (S : St w O I ((x, .ob (instObj C dx)) :: (dx, .dc (fun _ => none) 0) :: ms) s)
    (hc : c = .none ∨ ∃ a, c = .ref a) (hf : OTok I f of) (hl : OTok I l ol) (K : Kw c f l kw)
    (q : ∀ s' J c' f' l' k, Le I J → OLst J c c' → OTok J f' of → OTok J l' ol → k ≤ 11 → St w O J ((x, .ob (instObj C dx)) :: (dx, .dc (upd (nodeM nm c' f' l') "wrapped" (.bool false)) k) :: ms) s' → Q .none s') :
    codeAny (model PG w) A (.call (.ref 167) ⟨[.ref x, nm], kw⟩) (wants Q E) s := by
  refine enterKw (n := n + 4) (front := [("self", .ref x), ("name", nm), ("wrapped", .bool false)]) (ex := kw) (nm := "kwargs") S hA (lk167 _) rfl rfl (by kernel_rfl) (by cases K <;> kernel_rfl) K.nodup fun A' L s' E' Dk es n' hA' V P hs S => ?_
  change _root_.PySem.wpAt _ A' (.func (fnB (stB 7 0)) (e167 w L)) (execs (fnB (stB 7 0)) (e167 w L)) _ _ _
  refine ks_wpAt_execs_cons (ks_wpAt_Expr_any (methodStar (_root_.PySem.wpAt_of_wpAny ?_)))
  refine callTy (T := "super") S V (by kernel_rfl) (bl7 _) bv7 (by decide +kernel) (by decide +kernel) ?_
  ((with_reducible show wpAny _ _ (spliced (backTo _ (starEach (_ :: _) _))) _ _ _); refine wpAny_items_cons ?_)
  ((with_reducible show wpAny _ _ (eval (.Name _ _) _) _ _ _); refine nG (by assumption) (by assumption) (by kernel_rfl) (by first | with_reducible exact gl1 _ | with_reducible exact gl2 _ | with_reducible exact gl3 _ | with_reducible exact gl4 _ | with_reducible exact gl5 _ | with_reducible exact gl6 _ | with_reducible exact gl7 _ | with_reducible exact gl8 _ | with_reducible exact gl9 _ | with_reducible exact gl10 _ | with_reducible exact gl11 _ | with_reducible exact gl12 _ | with_reducible exact gl13 _ | with_reducible exact gl14 _ | with_reducible exact gl15 _ | with_reducible exact gl16 _ | with_reducible exact gl17 _) ?_ (by decide +kernel))
  ((with_reducible show wpAny _ _ (spliced (backTo _ (starEach (_ :: _) _))) _ _ _); refine wpAny_items_cons ?_)
  ((with_reducible show wpAny _ _ (eval (.Name _ _) _) _ _ _); refine nL (by assumption) (by assumption) (by kernel_rfl) (by first | with_unfolding_all rfl | with_unfolding_all assumption) ?_ (by decide +kernel))
  ((with_reducible show wpAny _ _ (spliced (backTo _ (starEach [] _))) _ _ _); refine wpAny_items_nil ?_)
  dsimp only
  have H : HI s'.heap x C _ := S.hi (i := 2) (j := 3) rfl rfl
  refine superNew S H hC2 fun s₁ so S H => ?_
  refine superM (i := 1) S.swap rfl H hC2 fun s₂ q' S => ?_
  refine superKw (Dk := Dk) (PV := fun v => v = nm) S (.tail _ (.head _)) P K hs (fun s Q' S k => ?_) (fun s Q' S k => ?_) fun s₃ v pv S => ?_
  · obtain ⟨ms₁, S⟩ := S
    show wpAny _ _ (eval (.Name _ _) _) _ _ _
    refine nL (by assumption) (by assumption) (by kernel_rfl) (by first | with_unfolding_all rfl | with_unfolding_all assumption) ?_ (by decide +kernel)
    exact k s _ rfl fun _ S => S
  · obtain ⟨ms₁, S⟩ := S
    refine wpAny_bind ?_
    refine nL (by assumption) (by assumption) (by kernel_rfl) (by first | with_unfolding_all rfl | with_unfolding_all assumption) ?_ (by decide +kernel)
    exact wpAny_bind (wpAny_standAt (wpAny_pure k))
  · subst pv
    refine ⟨⟨_, _, S⟩, ?_⟩
    have S := St.front (l₁ := [_, _, _, _, _]) (St.front (l₁ := [_, _, _, _, _]) S)
    refine nodeInit (n := n) hC hA' S hc hf hl (nodeBinds K) fun s₄ J c' f' l' k lJ hc' hf' hl' hk S => ?_
    have S := St.front (l₁ := [_, _, _]) S
    refine wpAt_of_wpAny ?_
    with_reducible refine wpAny_execs_cons ?_
    ((with_reducible show wpAny _ _ (exec (.Assign [.Attribute _ _ _] _ _) _) _ _ _); refine plainObj_wpAny_Assign_Attribute ?_)
    ((with_reducible show wpAny _ _ (eval (.Name _ _) _) _ _ _); refine nL (by assumption) (by assumption) (by kernel_rfl) (by first | with_unfolding_all rfl | with_unfolding_all assumption) ?_ (by decide +kernel))
    ((with_reducible show wpAny _ _ (eval (.Name _ _) _) _ _ _); refine nL (by assumption) (by assumption) (by kernel_rfl) (by first | with_unfolding_all rfl | with_unfolding_all assumption) ?_ (by decide +kernel))
    dsimp only
    refine setA (i := 1) (j := 2) (by assumption) (by rfl) (by rfl) hC3 (by (clear hc; (first | lia | omega))) fun s₅ S => ?_
    with_reducible refine wpAny_execs_nil ?_
    dsimp only
    exact q _ J c' f' l' (k + 1) lJ hc' hf' hl' (by (clear hc; (first | lia | omega))) (S.sub (by repeat (first | exact List.Sublist.refl _ | apply List.Sublist.cons₂ | apply List.Sublist.cons)))
end

end
section
theorem lk145 (P : Params) : (K0 P).lookup 145 = some (ko145 P) := by kernel_rfl
noncomputable abbrev e145 (w : World) (L : Addr) : Env := callEnv (fdOf (ko145 w.params)) L 145
section
variable {w : World} {O : OsState} {A : Around} {E : Value → Shared → Prop} {s : Shared} {I : Im} {ms : Ms} {sv mv c f l : Value} {kw : List (Str × Value)} {Q : Value → Shared → Prop}
theorem newComment {n : Nat} {of ol : Option (Int × Int)} (hA : Ok A (n + 6)) (S : St w O I ms s) (hc : c = .none ∨ ∃ a, c = .ref a) (hf : OTok I f of) (hl : OTok I l ol) (K : Kw c f l kw)
    (q : ∀ s' J x nm c' f' l', Le I J → OLst J c c' → OTok J f' of → OTok J l' ol → IHI J x 148 (upd (upd (nodeM nm c' f' l') "s" sv) "is_multi_line" mv) → St w O J ms s' → Q (.ref x) s') :
    codeAny (model PG w) A (.call (.ref 148) ⟨[sv, mv], kw⟩) (wants Q E) s := by
  refine newC (fI := 145) (n := n + 5) S hA (by kernel_rfl) fun A' s' x dx hA' S => ?_
  refine enterKw (n := n + 4) (front := [("self", .ref x), ("s", sv), ("is_multi_line", mv)]) (ex := kw) (nm := "kwargs") S hA' (lk145 _) rfl rfl (by kernel_rfl) (by cases K <;> kernel_rfl) K.nodup fun A' L s' E' Dk es n' hA' V P hs S => ?_
  change _root_.PySem.wpAt _ A' (.func (fnB (stB 6 0)) (e145 w L)) (execs (fnB (stB 6 0)) (e145 w L)) _ _ _
  have H : HI s'.heap x 148 _ := S.hi (i := 2) (j := 3) rfl rfl
  refine ks_wpAt_execs_cons (ks_wpAt_Expr_any (methodStar ?_))
  refine super0 (D := 148) (f2 := 73) S V (lk145 _) rfl (by kernel_rfl) (by with_unfolding_all rfl) H (by kernel_rfl) (by decide +kernel) fun s₁ so S H => ?_
  refine superM (i := 1) (D := 148) (f2 := 73) S.swap rfl H (by kernel_rfl) fun s₂ q' S => ?_
  refine superKw (Dk := Dk) (PV := fun v => True) S (.tail _ (.head _)) P K hs (fun s Q' S k => ?_) (fun s Q' S k => ?_) fun s₃ nm pv S => ?_
  · rw [if_neg Bool.false_ne_true]
    exact wpAny_Constant_str (k _ _ trivial fun _ S => S.toks)
  · obtain ⟨ms₁, S⟩ := S
    refine wpAny_bind ?_
    refine nL (by assumption) (by assumption) (by kernel_rfl) (by first | with_unfolding_all rfl | with_unfolding_all assumption) ?_ (by decide +kernel)
    exact wpAny_bind (wpAny_standAt (wpAny_pure k))
  · refine ⟨⟨_, _, S⟩, ?_⟩
    have S := St.front (l₁ := [_, _, _, _, _]) (St.front (l₁ := [_, _, _, _, _]) S)
    refine nodeInit (C := 148) (n := n) (by kernel_rfl) hA' S hc hf hl (nodeBinds K) fun s₄ J c' f' l' k lJ hc' hf' hl' hk S => ?_
    have S := St.front (l₁ := [_, _, _]) S
    refine _root_.PySem.wpAt_of_wpAny ?_
    with_reducible refine wpAny_execs_cons ?_
    ((with_reducible show wpAny _ _ (exec (.Assign [.Attribute _ _ _] _ _) _) _ _ _); refine plainObj_wpAny_Assign_Attribute ?_)
    ((with_reducible show wpAny _ _ (eval (.Name _ _) _) _ _ _); refine nL (by assumption) (by assumption) (by kernel_rfl) (by first | with_unfolding_all rfl | with_unfolding_all assumption) ?_ (by decide +kernel))
    ((with_reducible show wpAny _ _ (eval (.Name _ _) _) _ _ _); refine nL (by assumption) (by assumption) (by kernel_rfl) (by first | with_unfolding_all rfl | with_unfolding_all assumption) ?_ (by decide +kernel))
    dsimp only
    refine setA (i := 1) (j := 2) (by assumption) (by rfl) (by rfl) (by kernel_rfl) (by (clear hc; (first | lia | omega))) ?_; intro _ _
    with_reducible refine wpAny_execs_cons ?_
    ((with_reducible show wpAny _ _ (exec (.Assign [.Attribute _ _ _] _ _) _) _ _ _); refine plainObj_wpAny_Assign_Attribute ?_)
    ((with_reducible show wpAny _ _ (eval (.Name _ _) _) _ _ _); refine nL (by assumption) (by assumption) (by kernel_rfl) (by first | with_unfolding_all rfl | with_unfolding_all assumption) ?_ (by decide +kernel))
    ((with_reducible show wpAny _ _ (eval (.Name _ _) _) _ _ _); refine nL (by assumption) (by assumption) (by kernel_rfl) (by first | with_unfolding_all rfl | with_unfolding_all assumption) ?_ (by decide +kernel))
    dsimp only
    refine setA (i := 1) (j := 2) (by assumption) (by rfl) (by rfl) (by kernel_rfl) (by (clear hc; (first | lia | omega))) ?_; intro _ _
    with_reducible refine wpAny_execs_nil ?_
    dsimp only
    rename_i S
    obtain ⟨J', S', l2, H'⟩ := St.fixI (St.sub (ms' := (x, .ob (instObj 148 dx)) :: (dx, .dc (upd (upd (nodeM nm c' f' l') "s" sv) "is_multi_line" mv) _) :: ms) S (by repeat (first | exact List.Sublist.refl _ | apply List.Sublist.cons₂ | apply List.Sublist.cons)))
    exact ⟨rfl, q _ J' x nm c' f' l' (lJ.trans l2) (hc'.le l2) (hf'.le l2) (hl'.le l2) H' S'⟩
end
theorem lk255 (P : Params) : (K0 P).lookup 255 = some (ko255 P) := by kernel_rfl
noncomputable abbrev e255 (w : World) (L : Addr) : Env := callEnv (fdOf (ko255 w.params)) L 255
section
variable {w : World} {O : OsState} {A : Around} {E : Value → Shared → Prop} {s : Shared} {I : Im} {ms : Ms} {sv mv c f l : Value} {kw : List (Str × Value)} {Q : Value → Shared → Prop}
theorem newName {n : Nat} {of ol : Option (Int × Int)} (hA : Ok A (n + 7)) (S : St w O I ms s) (hc : c = .none ∨ ∃ a, c = .ref a) (hf : OTok I f of) (hl : OTok I l ol) (K : Kw c f l kw)
    (q : ∀ s' J x nm c' f' l', Le I J → OLst J c c' → OTok J f' of → OTok J l' ol → IHI J x 258 (upd (upd (upd (nodeM nm c' f' l') "wrapped" (.bool false)) "id" sv) "attribute" .none) → St w O J ms s' → Q (.ref x) s') :
    codeAny (model PG w) A (.call (.ref 258) ⟨[sv], kw⟩) (wants Q E) s := by
  refine newC (fI := 255) (n := n + 6) S hA (by kernel_rfl) fun A' s' x dx hA' S => ?_
  refine enterKw (n := n + 5) (front := [("self", .ref x), ("identifier", sv), ("attribute", .none)]) (ex := kw) (nm := "kwargs") S hA' (lk255 _) rfl rfl (by kernel_rfl) (by cases K <;> kernel_rfl) K.nodup fun A' L s' E' Dk es n' hA' V P hs S => ?_
  change _root_.PySem.wpAt _ A' (.func (fnB (stB 12 0)) (e255 w L)) (execs (fnB (stB 12 0)) (e255 w L)) _ _ _
  have H : HI s'.heap x 258 _ := S.hi (i := 2) (j := 3) rfl rfl
  refine ks_wpAt_execs_cons (ks_wpAt_Expr_any (methodStar (_root_.PySem.wpAt_of_wpAny ?_)))
  refine callTy (T := "super") S V (by kernel_rfl) (bl7 _) bv7 (by decide +kernel) (by decide +kernel) ?_
  ((with_reducible show wpAny _ _ (spliced (backTo _ (starEach (_ :: _) _))) _ _ _); refine wpAny_items_cons ?_)
  ((with_reducible show wpAny _ _ (eval (.Name _ _) _) _ _ _); refine nG (by assumption) (by assumption) (by kernel_rfl) (by first | with_reducible exact gl1 _ | with_reducible exact gl2 _ | with_reducible exact gl3 _ | with_reducible exact gl4 _ | with_reducible exact gl5 _ | with_reducible exact gl6 _ | with_reducible exact gl7 _ | with_reducible exact gl8 _ | with_reducible exact gl9 _ | with_reducible exact gl10 _ | with_reducible exact gl11 _ | with_reducible exact gl12 _ | with_reducible exact gl13 _ | with_reducible exact gl14 _ | with_reducible exact gl15 _ | with_reducible exact gl16 _ | with_reducible exact gl17 _) ?_ (by decide +kernel))
  ((with_reducible show wpAny _ _ (spliced (backTo _ (starEach (_ :: _) _))) _ _ _); refine wpAny_items_cons ?_)
  ((with_reducible show wpAny _ _ (eval (.Name _ _) _) _ _ _); refine nL (by assumption) (by assumption) (by kernel_rfl) (by first | with_unfolding_all rfl | with_unfolding_all assumption) ?_ (by decide +kernel))
  ((with_reducible show wpAny _ _ (spliced (backTo _ (starEach [] _))) _ _ _); refine wpAny_items_nil ?_)
  dsimp only
  refine superNew (D := 258) (f2 := 167) S H (by kernel_rfl) fun s₁ so S H => ?_
  refine superM (i := 1) (D := 258) (f2 := 167) S.swap rfl H (by kernel_rfl) fun s₂ q' S => ?_
  refine superKw (Dk := Dk) (PV := fun v => True) S (.tail _ (.head _)) P K hs (fun s Q' S k => ?_) (fun s Q' S k => ?_) fun s₃ nm pv S => ?_
  · rw [if_neg Bool.false_ne_true]
    exact wpAny_Constant_str (k _ _ trivial fun _ S => S.toks)
  · obtain ⟨ms₁, S⟩ := S
    refine wpAny_bind ?_
    refine nL (by assumption) (by assumption) (by kernel_rfl) (by first | with_unfolding_all rfl | with_unfolding_all assumption) ?_ (by decide +kernel)
    exact wpAny_bind (wpAny_standAt (wpAny_pure k))
  · refine ⟨⟨_, _, S⟩, ?_⟩
    have S := St.front (l₁ := [_, _, _, _, _]) (St.front (l₁ := [_, _, _, _, _]) S)
    refine exprInit (C := 258) (n := n) (by kernel_rfl) (by kernel_rfl) (by kernel_rfl) hA' S hc hf hl K fun s₄ J c' f' l' k lJ hc' hf' hl' hk S => ?_
    have S := St.front (l₁ := [_, _, _]) S
    refine _root_.PySem.wpAt_of_wpAny ?_
    with_reducible refine wpAny_execs_cons ?_
    ((with_reducible show wpAny _ _ (exec (.Assign [.Attribute _ _ _] _ _) _) _ _ _); refine plainObj_wpAny_Assign_Attribute ?_)
    ((with_reducible show wpAny _ _ (eval (.Name _ _) _) _ _ _); refine nL (by assumption) (by assumption) (by kernel_rfl) (by first | with_unfolding_all rfl | with_unfolding_all assumption) ?_ (by decide +kernel))
    ((with_reducible show wpAny _ _ (eval (.Name _ _) _) _ _ _); refine nL (by assumption) (by assumption) (by kernel_rfl) (by first | with_unfolding_all rfl | with_unfolding_all assumption) ?_ (by decide +kernel))
    dsimp only
    refine setA (i := 1) (j := 2) (by assumption) (by rfl) (by rfl) (by kernel_rfl) (by (clear hc; (first | lia | omega))) ?_; intro _ _
    with_reducible refine wpAny_execs_cons ?_
    ((with_reducible show wpAny _ _ (exec (.Assign [.Attribute _ _ _] _ _) _) _ _ _); refine plainObj_wpAny_Assign_Attribute ?_)
    ((with_reducible show wpAny _ _ (eval (.Name _ _) _) _ _ _); refine nL (by assumption) (by assumption) (by kernel_rfl) (by first | with_unfolding_all rfl | with_unfolding_all assumption) ?_ (by decide +kernel))
    ((with_reducible show wpAny _ _ (eval (.Name _ _) _) _ _ _); refine nL (by assumption) (by assumption) (by kernel_rfl) (by first | with_unfolding_all rfl | with_unfolding_all assumption) ?_ (by decide +kernel))
    dsimp only
    refine setA (i := 1) (j := 2) (by assumption) (by rfl) (by rfl) (by kernel_rfl) (by (clear hc; (first | lia | omega))) ?_; intro _ _
    with_reducible refine wpAny_execs_nil ?_
    dsimp only
    rename_i S
    obtain ⟨J', S', l2, H'⟩ := St.fixI (St.sub (ms' := (x, .ob (instObj 258 dx)) :: (dx, .dc (upd (upd (upd (nodeM nm c' f' l') "wrapped" (.bool false)) "id" sv) "attribute" .none) _) :: ms) S (by repeat (first | exact List.Sublist.refl _ | apply List.Sublist.cons₂ | apply List.Sublist.cons)))
    exact ⟨rfl, q _ J' x nm c' f' l' (lJ.trans l2) (hc'.le l2) (hf'.le l2) (hl'.le l2) H' S'⟩
end
theorem lk333 (P : Params) : (K0 P).lookup 333 = some (ko333 P) := by kernel_rfl
noncomputable abbrev e333 (w : World) (L : Addr) : Env := callEnv (fdOf (ko333 w.params)) L 333
section
variable {w : World} {O : OsState} {A : Around} {E : Value → Shared → Prop} {s : Shared} {I : Im} {ms : Ms} {sv mv c f l : Value} {kw : List (Str × Value)} {Q : Value → Shared → Prop}
theorem newCall {n : Nat} {of ol : Option (Int × Int)} (hA : Ok A (n + 7)) (S : St w O I ms s) (hc : c = .none ∨ ∃ a, c = .ref a) (hf : OTok I f of) (hl : OTok I l ol) (K : Kw c f l kw)
    (q : ∀ s' J x nm c' f' l', Le I J → OLst J c c' → OTok J f' of → OTok J l' ol → IHI J x 336 (upd (upd (upd (upd (nodeM nm c' f' l') "wrapped" (.bool false)) "func" sv) "args" mv) "style" (.int 0 617)) → St w O J ms s' → Q (.ref x) s') :
    codeAny (model PG w) A (.call (.ref 336) ⟨[sv, mv], kw⟩) (wants Q E) s := by
  refine newC (fI := 333) (n := n + 6) S hA (by kernel_rfl) fun A' s' x dx hA' S => ?_
  refine enterKw (n := n + 5) (front := [("self", .ref x), ("func", sv), ("args", mv), ("style", .int 0 617)]) (ex := kw) (nm := "kwargs") S hA' (lk333 _) rfl rfl (by kernel_rfl) (by cases K <;> kernel_rfl) K.nodup fun A' L s' E' Dk es n' hA' V P hs S => ?_
  change _root_.PySem.wpAt _ A' (.func (fnB (stB 16 0)) (e333 w L)) (execs (fnB (stB 16 0)) (e333 w L)) _ _ _
  have H : HI s'.heap x 336 _ := S.hi (i := 2) (j := 3) rfl rfl
  refine ks_wpAt_execs_cons (ks_wpAt_Expr_any (methodStar (_root_.PySem.wpAt_of_wpAny ?_)))
  refine callTy (T := "super") S V (by kernel_rfl) (bl7 _) bv7 (by decide +kernel) (by decide +kernel) ?_
  ((with_reducible show wpAny _ _ (spliced (backTo _ (starEach (_ :: _) _))) _ _ _); refine wpAny_items_cons ?_)
  ((with_reducible show wpAny _ _ (eval (.Name _ _) _) _ _ _); refine nG (by assumption) (by assumption) (by kernel_rfl) (by first | with_reducible exact gl1 _ | with_reducible exact gl2 _ | with_reducible exact gl3 _ | with_reducible exact gl4 _ | with_reducible exact gl5 _ | with_reducible exact gl6 _ | with_reducible exact gl7 _ | with_reducible exact gl8 _ | with_reducible exact gl9 _ | with_reducible exact gl10 _ | with_reducible exact gl11 _ | with_reducible exact gl12 _ | with_reducible exact gl13 _ | with_reducible exact gl14 _ | with_reducible exact gl15 _ | with_reducible exact gl16 _ | with_reducible exact gl17 _) ?_ (by decide +kernel))
  ((with_reducible show wpAny _ _ (spliced (backTo _ (starEach (_ :: _) _))) _ _ _); refine wpAny_items_cons ?_)
  ((with_reducible show wpAny _ _ (eval (.Name _ _) _) _ _ _); refine nL (by assumption) (by assumption) (by kernel_rfl) (by first | with_unfolding_all rfl | with_unfolding_all assumption) ?_ (by decide +kernel))
  ((with_reducible show wpAny _ _ (spliced (backTo _ (starEach [] _))) _ _ _); refine wpAny_items_nil ?_)
  dsimp only
  refine superNew (D := 336) (f2 := 167) S H (by kernel_rfl) fun s₁ so S H => ?_
  refine superM (i := 1) (D := 336) (f2 := 167) S.swap rfl H (by kernel_rfl) fun s₂ q' S => ?_
  refine superKw (Dk := Dk) (PV := fun v => True) S (.tail _ (.head _)) P K hs (fun s Q' S k => ?_) (fun s Q' S k => ?_) fun s₃ nm pv S => ?_
  · rw [if_neg Bool.false_ne_true]
    exact wpAny_Constant_str (k _ _ trivial fun _ S => S.toks)
  · obtain ⟨ms₁, S⟩ := S
    refine wpAny_bind ?_
    refine nL (by assumption) (by assumption) (by kernel_rfl) (by first | with_unfolding_all rfl | with_unfolding_all assumption) ?_ (by decide +kernel)
    exact wpAny_bind (wpAny_standAt (wpAny_pure k))
  · refine ⟨⟨_, _, S⟩, ?_⟩
    have S := St.front (l₁ := [_, _, _, _, _]) (St.front (l₁ := [_, _, _, _, _]) S)
    refine exprInit (C := 336) (n := n) (by kernel_rfl) (by kernel_rfl) (by kernel_rfl) hA' S hc hf hl K fun s₄ J c' f' l' k lJ hc' hf' hl' hk S => ?_
    have S := St.front (l₁ := [_, _, _]) S
    refine _root_.PySem.wpAt_of_wpAny ?_
    with_reducible refine wpAny_execs_cons ?_
    ((with_reducible show wpAny _ _ (exec (.Assign [.Attribute _ _ _] _ _) _) _ _ _); refine plainObj_wpAny_Assign_Attribute ?_)
    ((with_reducible show wpAny _ _ (eval (.Name _ _) _) _ _ _); refine nL (by assumption) (by assumption) (by kernel_rfl) (by first | with_unfolding_all rfl | with_unfolding_all assumption) ?_ (by decide +kernel))
    ((with_reducible show wpAny _ _ (eval (.Name _ _) _) _ _ _); refine nL (by assumption) (by assumption) (by kernel_rfl) (by first | with_unfolding_all rfl | with_unfolding_all assumption) ?_ (by decide +kernel))
    dsimp only
    refine setA (i := 1) (j := 2) (by assumption) (by rfl) (by rfl) (by kernel_rfl) (by (clear hc; (first | lia | omega))) ?_; intro _ _
    with_reducible refine wpAny_execs_cons ?_
    ((with_reducible show wpAny _ _ (exec (.Assign [.Attribute _ _ _] _ _) _) _ _ _); refine plainObj_wpAny_Assign_Attribute ?_)
    ((with_reducible show wpAny _ _ (eval (.Name _ _) _) _ _ _); refine nL (by assumption) (by assumption) (by kernel_rfl) (by first | with_unfolding_all rfl | with_unfolding_all assumption) ?_ (by decide +kernel))
    ((with_reducible show wpAny _ _ (eval (.Name _ _) _) _ _ _); refine nL (by assumption) (by assumption) (by kernel_rfl) (by first | with_unfolding_all rfl | with_unfolding_all assumption) ?_ (by decide +kernel))
    dsimp only
    refine setA (i := 1) (j := 2) (by assumption) (by rfl) (by rfl) (by kernel_rfl) (by (clear hc; (first | lia | omega))) ?_; intro _ _
    with_reducible refine wpAny_execs_cons ?_
    ((with_reducible show wpAny _ _ (exec (.Assign [.Attribute _ _ _] _ _) _) _ _ _); refine plainObj_wpAny_Assign_Attribute ?_)
    ((with_reducible show wpAny _ _ (eval (.Name _ _) _) _ _ _); refine nL (by assumption) (by assumption) (by kernel_rfl) (by first | with_unfolding_all rfl | with_unfolding_all assumption) ?_ (by decide +kernel))
    ((with_reducible show wpAny _ _ (eval (.Name _ _) _) _ _ _); refine nL (by assumption) (by assumption) (by kernel_rfl) (by first | with_unfolding_all rfl | with_unfolding_all assumption) ?_ (by decide +kernel))
    dsimp only
    refine setA (i := 1) (j := 2) (by assumption) (by rfl) (by rfl) (by kernel_rfl) (by (clear hc; (first | lia | omega))) ?_; intro _ _
    with_reducible refine wpAny_execs_nil ?_
    dsimp only
    rename_i S
    obtain ⟨J', S', l2, H'⟩ := St.fixI (St.sub (ms' := (x, .ob (instObj 336 dx)) :: (dx, .dc (upd (upd (upd (upd (nodeM nm c' f' l') "wrapped" (.bool false)) "func" sv) "args" mv) "style" (.int 0 617)) _) :: ms) S (by repeat (first | exact List.Sublist.refl _ | apply List.Sublist.cons₂ | apply List.Sublist.cons)))
    exact ⟨rfl, q _ J' x nm c' f' l' (lJ.trans l2) (hc'.le l2) (hf'.le l2) (hl'.le l2) H' S'⟩
end
theorem lk290 (P : Params) : (K0 P).lookup 290 = some (ko290 P) := by kernel_rfl
noncomputable abbrev e290 (w : World) (L : Addr) : Env := callEnv (fdOf (ko290 w.params)) L 290
section
variable {w : World} {O : OsState} {A : Around} {E : Value → Shared → Prop} {s : Shared} {I : Im} {ms : Ms} {sv mv c f l : Value} {kw : List (Str × Value)} {Q : Value → Shared → Prop}
theorem newDo {n : Nat} {of ol : Option (Int × Int)} (hA : Ok A (n + 7)) (S : St w O I ms s) (hc : c = .none ∨ ∃ a, c = .ref a) (hf : OTok I f of) (hl : OTok I l ol) (K : Kw c f l kw)
    (q : ∀ s' J x nm c' f' l', Le I J → OLst J c c' → OTok J f' of → OTok J l' ol → IHI J x 293 (upd (upd (nodeM nm c' f' l') "wrapped" (.bool false)) "body" sv) → St w O J ms s' → Q (.ref x) s') :
    codeAny (model PG w) A (.call (.ref 293) ⟨[sv], kw⟩) (wants Q E) s := by
  refine newC (fI := 290) (n := n + 6) S hA (by kernel_rfl) fun A' s' x dx hA' S => ?_
  refine enterKw (n := n + 5) (front := [("self", .ref x), ("body", sv)]) (ex := kw) (nm := "kwargs") S hA' (lk290 _) rfl rfl (by kernel_rfl) (by cases K <;> kernel_rfl) K.nodup fun A' L s' E' Dk es n' hA' V P hs S => ?_
  change _root_.PySem.wpAt _ A' (.func (fnB (stB 14 0)) (e290 w L)) (execs (fnB (stB 14 0)) (e290 w L)) _ _ _
  have H : HI s'.heap x 293 _ := S.hi (i := 2) (j := 3) rfl rfl
  refine ks_wpAt_execs_cons (ks_wpAt_Expr_any (methodStar ?_))
  refine super0 (D := 293) (f2 := 167) S V (lk290 _) rfl (by kernel_rfl) (by with_unfolding_all rfl) H (by kernel_rfl) (by decide +kernel) fun s₁ so S H => ?_
  refine superM (i := 1) (D := 293) (f2 := 167) S.swap rfl H (by kernel_rfl) fun s₂ q' S => ?_
  refine superKw (Dk := Dk) (PV := fun v => True) S (.tail _ (.head _)) P K hs (fun s Q' S k => ?_) (fun s Q' S k => ?_) fun s₃ nm pv S => ?_
  · rw [if_neg Bool.false_ne_true]
    exact wpAny_Constant_str (k _ _ trivial fun _ S => S.toks)
  · obtain ⟨ms₁, S⟩ := S
    refine wpAny_bind ?_
    refine nL (by assumption) (by assumption) (by kernel_rfl) (by first | with_unfolding_all rfl | with_unfolding_all assumption) ?_ (by decide +kernel)
    exact wpAny_bind (wpAny_standAt (wpAny_pure k))
  · refine ⟨⟨_, _, S⟩, ?_⟩
    have S := St.front (l₁ := [_, _, _, _, _]) (St.front (l₁ := [_, _, _, _, _]) S)
    refine exprInit (C := 293) (n := n) (by kernel_rfl) (by kernel_rfl) (by kernel_rfl) hA' S hc hf hl K fun s₄ J c' f' l' k lJ hc' hf' hl' hk S => ?_
    have S := St.front (l₁ := [_, _, _]) S
    refine _root_.PySem.wpAt_of_wpAny ?_
    with_reducible refine wpAny_execs_cons ?_
    ((with_reducible show wpAny _ _ (exec (.Assign [.Attribute _ _ _] _ _) _) _ _ _); refine plainObj_wpAny_Assign_Attribute ?_)
    ((with_reducible show wpAny _ _ (eval (.Name _ _) _) _ _ _); refine nL (by assumption) (by assumption) (by kernel_rfl) (by first | with_unfolding_all rfl | with_unfolding_all assumption) ?_ (by decide +kernel))
    ((with_reducible show wpAny _ _ (eval (.Name _ _) _) _ _ _); refine nL (by assumption) (by assumption) (by kernel_rfl) (by first | with_unfolding_all rfl | with_unfolding_all assumption) ?_ (by decide +kernel))
    dsimp only
    refine setA (i := 1) (j := 2) (by assumption) (by rfl) (by rfl) (by kernel_rfl) (by (clear hc; (first | lia | omega))) ?_; intro _ _
    with_reducible refine wpAny_execs_nil ?_
    dsimp only
    rename_i S
    obtain ⟨J', S', l2, H'⟩ := St.fixI (St.sub (ms' := (x, .ob (instObj 293 dx)) :: (dx, .dc (upd (upd (nodeM nm c' f' l') "wrapped" (.bool false)) "body" sv) _) :: ms) S (by repeat (first | exact List.Sublist.refl _ | apply List.Sublist.cons₂ | apply List.Sublist.cons)))
    exact ⟨rfl, q _ J' x nm c' f' l' (lJ.trans l2) (hc'.le l2) (hf'.le l2) (hl'.le l2) H' S'⟩
end
theorem lk200 (P : Params) : (K0 P).lookup 200 = some (ko200 P) := by kernel_rfl
noncomputable abbrev e200 (w : World) (L : Addr) : Env := callEnv (fdOf (ko200 w.params)) L 200
section
variable {w : World} {O : OsState} {A : Around} {E : Value → Shared → Prop} {s : Shared} {I : Im} {ms : Ms} {sv mv c f l : Value} {kw : List (Str × Value)} {Q : Value → Shared → Prop}
theorem newBlock {n : Nat} {of ol : Option (Int × Int)} (hA : Ok A (n + 6)) (S : St w O I ms s) (hc : c = .none ∨ ∃ a, c = .ref a) (hf : OTok I f of) (hl : OTok I l ol) (K : Kw c f l kw)
    (q : ∀ s' J x nm c' f' l', Le I J → OLst J c c' → OTok J f' of → OTok J l' ol → IHI J x 203 (upd (nodeM nm c' f' l') "body" sv) → St w O J ms s' → Q (.ref x) s') :
    codeAny (model PG w) A (.call (.ref 203) ⟨[sv], kw⟩) (wants Q E) s := by
  refine newC (fI := 200) (n := n + 5) S hA (by kernel_rfl) fun A' s' x dx hA' S => ?_
  refine enterKw (n := n + 4) (front := [("self", .ref x), ("body", sv)]) (ex := kw) (nm := "kwargs") S hA' (lk200 _) rfl rfl (by kernel_rfl) (by cases K <;> kernel_rfl) K.nodup fun A' L s' E' Dk es n' hA' V P hs S => ?_
  change _root_.PySem.wpAt _ A' (.func (fnB (stB 9 0)) (e200 w L)) (execs (fnB (stB 9 0)) (e200 w L)) _ _ _
  have H : HI s'.heap x 203 _ := S.hi (i := 2) (j := 3) rfl rfl
  refine ks_wpAt_execs_cons (ks_wpAt_Expr_any (methodStar ?_))
  refine super0 (D := 203) (f2 := 73) S V (lk200 _) rfl (by kernel_rfl) (by with_unfolding_all rfl) H (by kernel_rfl) (by decide +kernel) fun s₁ so S H => ?_
  refine superM (i := 1) (D := 203) (f2 := 73) S.swap rfl H (by kernel_rfl) fun s₂ q' S => ?_
  refine superKw (Dk := Dk) (PV := fun v => True) S (.tail _ (.head _)) P K hs (fun s Q' S k => ?_) (fun s Q' S k => ?_) fun s₃ nm pv S => ?_
  · rw [if_neg Bool.false_ne_true]
    exact wpAny_Constant_str (k _ _ trivial fun _ S => S.toks)
  · obtain ⟨ms₁, S⟩ := S
    refine wpAny_bind ?_
    refine nL (by assumption) (by assumption) (by kernel_rfl) (by first | with_unfolding_all rfl | with_unfolding_all assumption) ?_ (by decide +kernel)
    exact wpAny_bind (wpAny_standAt (wpAny_pure k))
  · refine ⟨⟨_, _, S⟩, ?_⟩
    have S := St.front (l₁ := [_, _, _, _, _]) (St.front (l₁ := [_, _, _, _, _]) S)
    refine nodeInit (C := 203) (n := n) (by kernel_rfl) hA' S hc hf hl (nodeBinds K) fun s₄ J c' f' l' k lJ hc' hf' hl' hk S => ?_
    have S := St.front (l₁ := [_, _, _]) S
    refine _root_.PySem.wpAt_of_wpAny ?_
    with_reducible refine wpAny_execs_cons ?_
    ((with_reducible show wpAny _ _ (exec (.Assign [.Attribute _ _ _] _ _) _) _ _ _); refine plainObj_wpAny_Assign_Attribute ?_)
    ((with_reducible show wpAny _ _ (eval (.Name _ _) _) _ _ _); refine nL (by assumption) (by assumption) (by kernel_rfl) (by first | with_unfolding_all rfl | with_unfolding_all assumption) ?_ (by decide +kernel))
    ((with_reducible show wpAny _ _ (eval (.Name _ _) _) _ _ _); refine nL (by assumption) (by assumption) (by kernel_rfl) (by first | with_unfolding_all rfl | with_unfolding_all assumption) ?_ (by decide +kernel))
    dsimp only
    refine setA (i := 1) (j := 2) (by assumption) (by rfl) (by rfl) (by kernel_rfl) (by (clear hc; (first | lia | omega))) ?_; intro _ _
    with_reducible refine wpAny_execs_nil ?_
    dsimp only
    rename_i S
    obtain ⟨J', S', l2, H'⟩ := St.fixI (St.sub (ms' := (x, .ob (instObj 203 dx)) :: (dx, .dc (upd (nodeM nm c' f' l') "body" sv) _) :: ms) S (by repeat (first | exact List.Sublist.refl _ | apply List.Sublist.cons₂ | apply List.Sublist.cons)))
    exact ⟨rfl, q _ J' x nm c' f' l' (lJ.trans l2) (hc'.le l2) (hf'.le l2) (hl'.le l2) H' S'⟩
end
theorem lk221 (P : Params) : (K0 P).lookup 221 = some (ko221 P) := by kernel_rfl
noncomputable abbrev e221 (w : World) (L : Addr) : Env := callEnv (fdOf (ko221 w.params)) L 221
section
variable {w : World} {O : OsState} {A : Around} {E : Value → Shared → Prop} {s : Shared} {I : Im} {ms : Ms} {sv mv c f l : Value} {kw : List (Str × Value)} {Q : Value → Shared → Prop}
theorem newChunk {n : Nat} {of ol : Option (Int × Int)} (hA : Ok A (n + 6)) (S : St w O I ms s) (hc : c = .none ∨ ∃ a, c = .ref a) (hf : OTok I f of) (hl : OTok I l ol) (K : Kw c f l kw)
    (q : ∀ s' J x nm c' f' l', Le I J → OLst J c c' → OTok J f' of → OTok J l' ol → IHI J x 224 (upd (nodeM nm c' f' l') "body" sv) → St w O J ms s' → Q (.ref x) s') :
    codeAny (model PG w) A (.call (.ref 224) ⟨[sv], kw⟩) (wants Q E) s := by
  refine newC (fI := 221) (n := n + 5) S hA (by kernel_rfl) fun A' s' x dx hA' S => ?_
  refine enterKw (n := n + 4) (front := [("self", .ref x), ("body", sv)]) (ex := kw) (nm := "kwargs") S hA' (lk221 _) rfl rfl (by kernel_rfl) (by cases K <;> kernel_rfl) K.nodup fun A' L s' E' Dk es n' hA' V P hs S => ?_
  change _root_.PySem.wpAt _ A' (.func (fnB (stB 10 0)) (e221 w L)) (execs (fnB (stB 10 0)) (e221 w L)) _ _ _
  have H : HI s'.heap x 224 _ := S.hi (i := 2) (j := 3) rfl rfl
  refine ks_wpAt_execs_cons (ks_wpAt_Expr_any (methodStar (_root_.PySem.wpAt_of_wpAny ?_)))
  refine callTy (T := "super") S V (by kernel_rfl) (bl7 _) bv7 (by decide +kernel) (by decide +kernel) ?_
  ((with_reducible show wpAny _ _ (spliced (backTo _ (starEach (_ :: _) _))) _ _ _); refine wpAny_items_cons ?_)
  ((with_reducible show wpAny _ _ (eval (.Name _ _) _) _ _ _); refine nG (by assumption) (by assumption) (by kernel_rfl) (by first | with_reducible exact gl1 _ | with_reducible exact gl2 _ | with_reducible exact gl3 _ | with_reducible exact gl4 _ | with_reducible exact gl5 _ | with_reducible exact gl6 _ | with_reducible exact gl7 _ | with_reducible exact gl8 _ | with_reducible exact gl9 _ | with_reducible exact gl10 _ | with_reducible exact gl11 _ | with_reducible exact gl12 _ | with_reducible exact gl13 _ | with_reducible exact gl14 _ | with_reducible exact gl15 _ | with_reducible exact gl16 _ | with_reducible exact gl17 _) ?_ (by decide +kernel))
  ((with_reducible show wpAny _ _ (spliced (backTo _ (starEach (_ :: _) _))) _ _ _); refine wpAny_items_cons ?_)
  ((with_reducible show wpAny _ _ (eval (.Name _ _) _) _ _ _); refine nL (by assumption) (by assumption) (by kernel_rfl) (by first | with_unfolding_all rfl | with_unfolding_all assumption) ?_ (by decide +kernel))
  ((with_reducible show wpAny _ _ (spliced (backTo _ (starEach [] _))) _ _ _); refine wpAny_items_nil ?_)
  dsimp only
  refine superNew (D := 224) (f2 := 73) S H (by kernel_rfl) fun s₁ so S H => ?_
  refine superM (i := 1) (D := 224) (f2 := 73) S.swap rfl H (by kernel_rfl) fun s₂ q' S => ?_
  refine superKw (Dk := Dk) (PV := fun v => True) S (.tail _ (.head _)) P K hs (fun s Q' S k => ?_) (fun s Q' S k => ?_) fun s₃ nm pv S => ?_
  · rw [if_neg Bool.false_ne_true]
    exact wpAny_Constant_str (k _ _ trivial fun _ S => S.toks)
  · obtain ⟨ms₁, S⟩ := S
    refine wpAny_bind ?_
    refine nL (by assumption) (by assumption) (by kernel_rfl) (by first | with_unfolding_all rfl | with_unfolding_all assumption) ?_ (by decide +kernel)
    exact wpAny_bind (wpAny_standAt (wpAny_pure k))
  · refine ⟨⟨_, _, S⟩, ?_⟩
    have S := St.front (l₁ := [_, _, _, _, _]) (St.front (l₁ := [_, _, _, _, _]) S)
    refine nodeInit (C := 224) (n := n) (by kernel_rfl) hA' S hc hf hl (nodeBinds K) fun s₄ J c' f' l' k lJ hc' hf' hl' hk S => ?_
    have S := St.front (l₁ := [_, _, _]) S
    refine _root_.PySem.wpAt_of_wpAny ?_
    with_reducible refine wpAny_execs_cons ?_
    ((with_reducible show wpAny _ _ (exec (.Assign [.Attribute _ _ _] _ _) _) _ _ _); refine plainObj_wpAny_Assign_Attribute ?_)
    ((with_reducible show wpAny _ _ (eval (.Name _ _) _) _ _ _); refine nL (by assumption) (by assumption) (by kernel_rfl) (by first | with_unfolding_all rfl | with_unfolding_all assumption) ?_ (by decide +kernel))
    ((with_reducible show wpAny _ _ (eval (.Name _ _) _) _ _ _); refine nL (by assumption) (by assumption) (by kernel_rfl) (by first | with_unfolding_all rfl | with_unfolding_all assumption) ?_ (by decide +kernel))
    dsimp only
    refine setA (i := 1) (j := 2) (by assumption) (by rfl) (by rfl) (by kernel_rfl) (by (clear hc; (first | lia | omega))) ?_; intro _ _
    with_reducible refine wpAny_execs_nil ?_
    dsimp only
    rename_i S
    obtain ⟨J', S', l2, H'⟩ := St.fixI (St.sub (ms' := (x, .ob (instObj 224 dx)) :: (dx, .dc (upd (nodeM nm c' f' l') "body" sv) _) :: ms) S (by repeat (first | exact List.Sublist.refl _ | apply List.Sublist.cons₂ | apply List.Sublist.cons)))
    exact ⟨rfl, q _ J' x nm c' f' l' (lJ.trans l2) (hc'.le l2) (hf'.le l2) (hl'.le l2) H' S'⟩
end

end
section
theorem iteD {p : Prop} [Decidable p] {X Y : Prop} (ht : p → X) (hf : ¬ p → Y) : if decide p = true then X else Y := by
  by_cases h : p
  · rw [if_pos (decide_eq_true h)]; exact ht h
  · rw [if_neg (by rw [decide_eq_false h]; decide)]; exact hf h
noncomputable def HandC (I : Im) (c : Cel) : Prop := ∃ C xs turn tail t1 t2, c = .ls #[.ref C, .int turn t1, .int tail t2] ∧ ILst I C xs ∧ (∀ v ∈ xs, ∃ n t, v = Value.int n t) ∧ xs.size ≤ 40 ∧ 0 ≤ turn ∧ 0 ≤ tail ∧ tail < 1009

theorem lk842 (P : Params) : (K0 P).lookup 842 = some (ko842 P) := by kernel_rfl
noncomputable abbrev e842 (w : World) (L : Addr) : Env := callEnv (fdOf (ko842 w.params)) L 842

section
variable {w : World} {O : OsState} {A : Around} {E : Value → Shared → Prop} {s : Shared} {I : Im} {ms : Ms} {Q : Value → Shared → Prop}
theorem draw_spec {n i : Nat} {H : Addr} {c : Cel} {many : Int} {tm : Tok} (hA : Ok A (n + 1)) (S : St w O I ms s) (hi : ms[i]? = some (H, c)) (hc : HandC I c) (h0 : 0 < many) (h1 : many < 1000)
    (q : ∀ s' c' r t, St w O I (ms.set i (H, c')) s' → HandC I c' → 0 ≤ r → r < many → Q (.int r t) s') : codeAny (model PG w) A (.call (.ref 842) ⟨[.ref H, .int many tm], []⟩) (wants Q E) s := by
  obtain ⟨C, xs, turn, tail, t1, t2, rfl, hC, hx, hz, hturn, htail, htail'⟩ := hc
  refine enter (n := n) (binds := [("hand", .ref H), ("many", .int many tm)]) S hA (lk842 _) rfl rfl (by kernel_rfl) (.of_eq (by kernel_rfl)) fun A' L s' E' hA' V S => ?_
  change wpAny _ A' (execs (fnB (stA 24)) (e842 w L)) _ _ _
  refine wpAny_execs_cons ?_
  ((with_reducible show wpAny _ _ (exec (.Assign [.Tuple _ _ _] _ _) _) _ _ _); refine Assign_Tuple ?_)
  ((with_reducible show wpAny _ _ (eval (.Name _ _) _) _ _ _); refine nL (by assumption) (by assumption) (by kernel_rfl) (by first | with_unfolding_all rfl | with_unfolding_all assumption) ?_ (by decide +kernel))
  dsimp only
  refine unpackL hA' (by assumption) (S.gl (i := i + 1) hi) (by rfl) (by rfl) fun s' S => ?_
  ((with_reducible show wpAny _ _ (assignInOrder (List.map _ (assignEach _ _)) _) _ _ _); unfold assignEach; dsimp only [List.map])
  with_reducible refine aioN ?_
  ((with_reducible show wpAny _ _ (assign (.Name _ _) _ _) _ _ _); refine asgN (by assumption) (by assumption) (by kernel_rfl) ?_; intro _ _)
  ((with_reducible show wpAny _ _ (assignInOrder (List.map _ (assignEach _ _)) _) _ _ _); unfold assignEach; dsimp only [List.map])
  with_reducible refine aioN ?_
  ((with_reducible show wpAny _ _ (assign (.Name _ _) _ _) _ _ _); refine asgN (by assumption) (by assumption) (by kernel_rfl) ?_; intro _ _)
  ((with_reducible show wpAny _ _ (assignInOrder (List.map _ (assignEach _ _)) _) _ _ _); unfold assignEach; dsimp only [List.map])
  with_reducible refine aioN ?_
  ((with_reducible show wpAny _ _ (assign (.Name _ _) _ _) _ _ _); refine asgN (by assumption) (by assumption) (by kernel_rfl) ?_; intro _ _)
  ((with_reducible show wpAny _ _ (assignInOrder (List.map _ (assignEach _ _)) _) _ _ _); unfold assignEach; dsimp only [List.map])
  with_reducible refine assignInOrder_nil ?_
  with_reducible refine wpAny_execs_cons ?_
  with_reducible refine wpAny_If ?_
  ((with_reducible show wpAny _ _ (isTrue (.Compare _ [_] [_] _) _ _) _ _ _); refine wpAny_isTrue_Compare1 ?_)
  ((with_reducible show wpAny _ _ (eval (.Name _ _) _) _ _ _); refine nL (by assumption) (by assumption) (by kernel_rfl) (by first | with_unfolding_all rfl | with_unfolding_all assumption) ?_ (by decide +kernel))
  ((with_reducible show wpAny _ _ (eval (.Call (.Name (Str.ofString "len") _) _ [] _) _) _ _ _); refine callB (id := "len") (by assumption) (by assumption) (by kernel_rfl) (by kernel_rfl) (by kernel_rfl) (by decide +kernel) (by decide +kernel) ?_)
  ((with_reducible show wpAny _ _ (spliced (backTo _ (starEach (_ :: _) _))) _ _ _); refine wpAny_items_cons ?_)
  ((with_reducible show wpAny _ _ (eval (.Name _ _) _) _ _ _); refine nL (by assumption) (by assumption) (by kernel_rfl) (by first | with_unfolding_all rfl | with_unfolding_all assumption) ?_ (by decide +kernel))
  ((with_reducible show wpAny _ _ (spliced (backTo _ (starEach [] _))) _ _ _); refine wpAny_items_nil ?_)
  refine lenL (by assumption) (hC.lst (by assumption)) (by (clear h0 h1 hturn htail htail'; (first | lia | omega))) fun s' t S => ?_
  with_reducible refine lt_int ?_
  with_reducible refine wpAny_truthy_bool ?_
  refine iteD (fun hlt => ?_) (fun hlt => ?_)
  · with_reducible refine wpAny_execs_cons ?_
    ((with_reducible show wpAny _ _ (exec (.Assign [.Subscript _ _ _] _ _) _) _ _ _); refine wpAny_Assign_Subscript ?_)
    with_reducible refine wpAny_BinOp ?_
    ((with_reducible show wpAny _ _ (eval (.Name _ _) _) _ _ _); refine nL (by assumption) (by assumption) (by kernel_rfl) (by first | with_unfolding_all rfl | with_unfolding_all assumption) ?_ (by decide +kernel))
    (with_reducible refine cI (by assumption) ?_; intro _ _ _)
    (with_reducible refine oAdd (by assumption) ?_; intro _ _ _)
    ((with_reducible show wpAny _ _ (eval (.Name _ _) _) _ _ _); refine nL (by assumption) (by assumption) (by kernel_rfl) (by first | with_unfolding_all rfl | with_unfolding_all assumption) ?_ (by decide +kernel))
    (with_reducible refine cI (by assumption) ?_; intro _ _ _)
    dsimp only
    refine setI (i := i + 1) (by assumption) hi (by decide) (by show (1 : Int) < 3; decide) (by show 3 < 1000000; decide) fun s' S => ?_
    with_reducible refine wpAny_execs_cons ?_
    with_reducible refine wpAny_Return_some ?_
    with_reducible refine wpAny_BinOp ?_
    with_reducible refine Subscript_ ?_
    ((with_reducible show wpAny _ _ (eval (.Name _ _) _) _ _ _); refine nL (by assumption) (by assumption) (by kernel_rfl) (by first | with_unfolding_all rfl | with_unfolding_all assumption) ?_ (by decide +kernel))
    ((with_reducible show wpAny _ _ (eval (.Name _ _) _) _ _ _); refine nL (by assumption) (by assumption) (by kernel_rfl) (by first | with_unfolding_all rfl | with_unfolding_all assumption) ?_ (by decide +kernel))
    dsimp only
    have hj : turn.toNat < xs.size := by (clear h0 h1 hz htail htail'; (first | lia | omega))
    obtain ⟨r, t, hr⟩ := hx xs[turn.toNat] (Array.getElem_mem hj)
    refine getI (v := .int r t) (hC.lst (by assumption)) hturn (by (clear h0 h1 hturn htail htail' hlt; (first | lia | omega))) (by rw [Array.getElem?_eq_getElem hj, hr]) ?_
    ((with_reducible show wpAny _ _ (eval (.Name _ _) _) _ _ _); refine nL (by assumption) (by assumption) (by kernel_rfl) (by first | with_unfolding_all rfl | with_unfolding_all assumption) ?_ (by decide +kernel))
    refine oMod (by assumption) h0 (by (clear hz hturn htail htail' hlt; (first | lia | omega))) fun s' t S => q _ _ _ _ S.tail ⟨C, xs, _, _, _, _, rfl, hC, hx, hz, by (clear h0 h1 hz htail htail' hlt; (first | lia | omega)), htail, htail'⟩ (Int.emod_nonneg _ (by (clear hz hturn htail htail' hlt; (first | lia | omega)))) (Int.emod_lt_of_pos _ h0)
  · with_reducible refine wpAny_execs_nil ?_
    with_reducible refine wpAny_execs_cons ?_
    ((with_reducible show wpAny _ _ (exec (.Assign [.Subscript _ _ _] _ _) _) _ _ _); refine wpAny_Assign_Subscript ?_)
    with_reducible refine wpAny_BinOp ?_
    with_reducible refine wpAny_BinOp ?_
    with_reducible refine wpAny_BinOp ?_
    ((with_reducible show wpAny _ _ (eval (.Name _ _) _) _ _ _); refine nL (by assumption) (by assumption) (by kernel_rfl) (by first | with_unfolding_all rfl | with_unfolding_all assumption) ?_ (by decide +kernel))
    (with_reducible refine cI (by assumption) ?_; intro _ _ _)
    dsimp only
    refine oMul (by assumption) (.of_right (by decide)) fun s' t S => ?_
    (with_reducible refine cI (by assumption) ?_; intro _ _ _)
    (with_reducible refine oAdd (by assumption) ?_; intro _ _ _)
    (with_reducible refine cI (by assumption) ?_; intro _ _ _)
    refine oMod (by assumption) (by decide) (by decide) fun s' t S => ?_
    ((with_reducible show wpAny _ _ (eval (.Name _ _) _) _ _ _); refine nL (by assumption) (by assumption) (by kernel_rfl) (by first | with_unfolding_all rfl | with_unfolding_all assumption) ?_ (by decide +kernel))
    (with_reducible refine cI (by assumption) ?_; intro _ _ _)
    refine setI (i := i + 1) (by assumption) hi (by decide) (by show (2 : Int) < 3; decide) (by show 3 < 1000000; decide) fun s' S => ?_
    with_reducible refine wpAny_execs_cons ?_
    with_reducible refine wpAny_Return_some ?_
    with_reducible refine wpAny_BinOp ?_
    with_reducible refine Subscript_ ?_
    ((with_reducible show wpAny _ _ (eval (.Name _ _) _) _ _ _); refine nL (by assumption) (by assumption) (by kernel_rfl) (by first | with_unfolding_all rfl | with_unfolding_all assumption) ?_ (by decide +kernel))
    (with_reducible refine cI (by assumption) ?_; intro _ _ _)
    dsimp only
    have hH : ms[i]? = some (H, _) := hi
    refine getI (St.gl (i := i + 1) (by assumption) (by show (ms.set i _)[i]? = _; rw [List.getElem?_set_self (by obtain ⟨z, _⟩ := List.getElem?_eq_some_iff.mp hi; exact z)])) (by decide) (by show 3 < 1000000; decide) (by rfl) ?_
    ((with_reducible show wpAny _ _ (eval (.Name _ _) _) _ _ _); refine nL (by assumption) (by assumption) (by kernel_rfl) (by first | with_unfolding_all rfl | with_unfolding_all assumption) ?_ (by decide +kernel))
    refine oMod (by assumption) h0 (by (clear hz hturn htail htail' hlt; (first | lia | omega))) fun s' t S => q _ _ _ _ S.tail ⟨C, xs, _, _, _, _, rfl, hC, hx, hz, hturn, Int.emod_nonneg _ (by (clear h0 h1 hz hturn htail htail' hlt; (first | lia | omega))), Int.emod_lt_of_pos _ (by (clear h0 h1 hz hturn htail htail' hlt; (first | lia | omega)))⟩ (Int.emod_nonneg _ (by (clear hz hturn htail htail' hlt; (first | lia | omega)))) (Int.emod_lt_of_pos _ h0)
end

end
section
section
variable {w : World} {O : OsState} {A : Around} {E : Value → Shared → Prop} {s : Shared} {I : Im} {ms : Ms} {L : Addr} {env : Env} {m : Str → Option Value} {pos : Pos}
theorem addS {x y : Str} {t u : Tok} {Q : Value → Shared → Prop} (S : St w O I ms s) (hz : x.length + y.length ≤ 16000000) (h : ∀ s' t, St w O I ms s' → Q (.str (x ++ y) t) s') : wpAny (model PG w) A (binaryOp .Add (.str x t) (.str y u)) Q E s :=
  PyProof.Rows.add_str (fun _ _ => h _ _ S.toks) (by rw [sizeLine_eq]; (first | lia | omega))
theorem strI {a : Int} {t : Tok} {Q : Value → Shared → Prop} (S : St w O I ms s) (h0 : 0 ≤ a) (ha : a < 100000) (h : ∀ s' t, St w O I ms s' → Q (.str (toString a) t) s') : wpAny (model PG w) A (call (.type "str") [.int a t]) Q E s :=
  P.str_of_int (by
    by_cases z : a.natAbs = 0
    · rw [z]; decide
    · exact (Nat.log2_lt z).mpr (Nat.lt_of_lt_of_le (by (clear z; (first | lia | omega)) : a.natAbs < 2 ^ 17) (Nat.pow_le_pow_right (by decide) (by decide)))) (h _ _ S.toks)
theorem appendO {o x : Expr} {ap p1 p2 : Pos} {Q : Flow → Shared → Prop}
    (h : wpAny (model PG w) A (eval o env) (fun ov s₁ => ∃ l items n, ov = .ref l ∧ s₁.heap.get? l = some (lo items n) ∧ wpAny (model PG w) A (eval x env) (fun v s₂ => ∃ I' ms' i items, St w O I' ms' s₂ ∧ ms'[i]? = some (l, .ls items) ∧ items.size < 1000000 ∧ ∀ s', St w O I' (ms'.set i (l, .ls (items.push v))) s' → Q .next s') E s₁) E s)
    (he : eval (.Call (.Attribute o "append" ap) [x] [] p1) env = (do
      let ov ← eval o env
      standAt ap.atName
      let (f, first) ← holding [ov] (getMethod ov "append" (do return (← importBound o env).getD true))
      callWith p1 f first (backTo p1 (starEach [x] env)) (backToKw p1 (keywordEach [] env))) := by rfl) (hx : starEach [x] env = [(false, eval x env)] := by rfl) (hi : interactive env = false := by rfl)
    (hs : swapsWith (.Call (.Attribute o "append" ap) [x] [] p1) none p2.line env = pure false := by rfl) :
    wpAny (model PG w) A (exec (.Expr (.Call (.Attribute o "append" ap) [x] [] p1) p2) env) Q E s := by
  refine wpAny_Expr ?_ hi hs
  rw [he, hx]
  refine wpAny_bind (wpAny_mono h (fun ov s₁ h₁ => wpAny_bind (wpAny_standAt (wpAny_bind (wpAny_holding ?_)))) fun _ _ y => y)
  obtain ⟨l, items, n, rfl, hl, h₁⟩ := h₁
  refine getMethod_list_append hl rfl rfl ?_
  refine P.append_list (wpAny_mono h₁ (fun v s₂ h₂ => ?_) fun _ _ y => y)
  obtain ⟨I', ms', i, items, S, hi, hz, q⟩ := h₂
  obtain ⟨n, e⟩ := S.get hi
  exact ⟨items, n, by rw [sizeLine_eq]; (first | lia | omega), e, q _ (S.set hi (fun b hb o z => (Heap.get?_update_ne _ _ _ _ hb).trans z) ⟨_, e.update _⟩ S.gens)⟩
theorem St.lo {i : Nat} {l : Addr} {items : Array Value} (S : St w O I ms s) (h : ms[i]? = some (l, .ls items)) : ∃ n, s.heap.get? l = some (lo items n) := S.get h
end
theorem lk849 (P : Params) : (K0 P).lookup 849 = some (ko849 P) := by kernel_rfl
noncomputable abbrev e849 (w : World) (L : Addr) : Env := callEnv (fdOf (ko849 w.params)) L 849
section
variable {w : World} {O : OsState} {A : Around} {E : Value → Shared → Prop} {s : Shared} {I : Im} {ms : Ms} {Q : Value → Shared → Prop}
theorem sign_spec {n : Nat} {R T : Addr} {rv : Array Value} {k : Int} {t : Tok} (hA : Ok A (n + 3)) (S : St w O I ((R, .ls rv) :: (T, .ls #[.int k t]) :: ms) s) (hz : rv.size < 100000)
    (q : ∀ s' J v t', Le I J → ITok J v (k + 1) rv.size → St w O J ((R, .ls rv) :: (T, .ls #[.int (k + 1) t']) :: ms) s' → Q v s') :
    codeAny (model PG w) A (.call (.ref 849) ⟨[.ref R, .ref T], []⟩) (wants Q E) s := by
  refine enter (n := n + 2) (binds := [("rows", .ref R), ("seat", .ref T)]) S hA (lk849 _) rfl rfl (by kernel_rfl) (.of_eq (by kernel_rfl)) fun A' L s' E' hA' V S => ?_
  change wpAny _ A' (execs (fnB (stA 25)) (e849 w L)) _ _ _
  refine wpAny_execs_cons ?_
  ((with_reducible show wpAny _ _ (exec (.Assign [.Subscript _ _ _] _ _) _) _ _ _); refine wpAny_Assign_Subscript ?_)
  with_reducible refine wpAny_BinOp ?_
  with_reducible refine Subscript_ ?_
  ((with_reducible show wpAny _ _ (eval (.Name _ _) _) _ _ _); refine nL (by assumption) (by assumption) (by kernel_rfl) (by first | with_unfolding_all rfl | with_unfolding_all assumption) ?_ (by decide +kernel))
  (with_reducible refine cI (by assumption) ?_; intro _ _ _)
  dsimp only
  refine getI (v := .int k t) (St.gl (i := 2) (by assumption) (by rfl)) (by decide) (by show 1 < 1000000; decide) (by rfl) ?_
  (with_reducible refine cI (by assumption) ?_; intro _ _ _)
  (with_reducible refine oAdd (by assumption) ?_; intro _ _ _)
  ((with_reducible show wpAny _ _ (eval (.Name _ _) _) _ _ _); refine nL (by assumption) (by assumption) (by kernel_rfl) (by first | with_unfolding_all rfl | with_unfolding_all assumption) ?_ (by decide +kernel))
  (with_reducible refine cI (by assumption) ?_; intro _ _ _)
  refine setI (i := 2) (by assumption) (by rfl) (by decide) (by show (0 : Int) < 1; decide) (by show 1 < 1000000; decide) fun s₁ S => ?_
  have S : St w O I ((L, .ns _) :: (R, .ls rv) :: (T, .ls #[.int (k + 1) _]) :: ms) s₁ := S
  with_reducible refine wpAny_execs_cons ?_
  with_reducible refine wpAny_Return_some ?_
  dsimp only
  refine callF (v := .ref 54) S V (by kernel_rfl) (gl1 _) (by kernel_rfl) (by decide +kernel) ?_
  ((with_reducible show wpAny _ _ (spliced (backTo _ (starEach (_ :: _) _))) _ _ _); refine wpAny_items_cons ?_)
  (with_reducible refine cS (by assumption) ?_; intro _ _ _)
  ((with_reducible show wpAny _ _ (spliced (backTo _ (starEach (_ :: _) _))) _ _ _); refine wpAny_items_cons ?_)
  with_reducible refine Subscript_ ?_
  ((with_reducible show wpAny _ _ (eval (.Name _ _) _) _ _ _); refine nL (by assumption) (by assumption) (by kernel_rfl) (by first | with_unfolding_all rfl | with_unfolding_all assumption) ?_ (by decide +kernel))
  (with_reducible refine cI (by assumption) ?_; intro _ _ _)
  refine getI (v := .int (k + 1) _) (St.gl (i := 2) (by assumption) (by rfl)) (by decide) (by show 1 < 1000000; decide) (by rfl) ?_
  ((with_reducible show wpAny _ _ (spliced (backTo _ (starEach (_ :: _) _))) _ _ _); refine wpAny_items_cons ?_)
  ((with_reducible show wpAny _ _ (eval (.Call (.Name (Str.ofString "len") _) _ [] _) _) _ _ _); refine callB (id := "len") (by assumption) (by assumption) (by kernel_rfl) (by kernel_rfl) (by kernel_rfl) (by decide +kernel) (by decide +kernel) ?_)
  ((with_reducible show wpAny _ _ (spliced (backTo _ (starEach (_ :: _) _))) _ _ _); refine wpAny_items_cons ?_)
  ((with_reducible show wpAny _ _ (eval (.Name _ _) _) _ _ _); refine nL (by assumption) (by assumption) (by kernel_rfl) (by first | with_unfolding_all rfl | with_unfolding_all assumption) ?_ (by decide +kernel))
  ((with_reducible show wpAny _ _ (spliced (backTo _ (starEach [] _))) _ _ _); refine wpAny_items_nil ?_)
  refine lenL (by assumption) (St.gl (i := 1) (by assumption) (by rfl)) (by (first | lia | omega)) fun s₂ t₂ S => ?_
  ((with_reducible show wpAny _ _ (spliced (backTo _ (starEach [] _))) _ _ _); refine wpAny_items_nil ?_)
  refine ⟨S.kin, wpAny_call (tokNew (n := n) hA' S (fun x s X => bind3 X) fun s₃ x dx S => ?_)⟩
  obtain ⟨J, S, l1, H⟩ := S.fixI
  exact q _ J _ _ l1 ⟨x, _, _, _, _, rfl, H⟩ S.tail
end

end
section
/-- a remark: its text, its token's number and row -/
noncomputable abbrev Com := Str × Int × Int
noncomputable def ICom (J : Im) (v : Value) (cm : Com) : Prop := ∃ x m ft t, v = .ref x ∧ IHI J x 148 m ∧ m "s" = some (.str cm.1 t) ∧ m "_first_token" = some ft ∧ ITok J ft cm.2.1 cm.2.2
theorem ICom.le {I J : Im} {v : Value} {c : Com} (h : ICom I v c) (l : Le I J) : ICom J v c := by
  obtain ⟨x, m, ft, t, a, b, c, d, e⟩ := h
  exact ⟨x, m, ft, t, a, b.le l, c, d, e.le l⟩
inductive IComs (J : Im) : List Value → List Com → Prop
  | nil : IComs J [] []
  | cons {v : Value} {c : Com} {vs : List Value} {cs : List Com} : ICom J v c → IComs J vs cs → IComs J (v :: vs) (c :: cs)
theorem IComs.le {I J : Im} {vs : List Value} {cs : List Com} (h : IComs I vs cs) (l : Le I J) : IComs J vs cs := by
  induction h with
  | nil => exact .nil
  | cons a _ ih => exact .cons (a.le l) ih
theorem IComs.app {J : Im} {vs us : List Value} {cs ds : List Com} (h : IComs J vs cs) (k : IComs J us ds) : IComs J (vs ++ us) (cs ++ ds) := by
  induction h with
  | nil => exact k
  | cons a _ ih => exact .cons a ih
theorem IComs.len {J : Im} {vs : List Value} {cs : List Com} (h : IComs J vs cs) : vs.length = cs.length := by
  induction h with
  | nil => rfl
  | cons _ _ ih => simp [ih]
noncomputable def tx (k : Int) : Str := (("--[[" : Str) ++ (Str.ofString (toString k))) ++ ("]]" : Str)
noncomputable def lastPut (rs : List Str) (t : Str) : List Str := rs.dropLast ++ [((rs.getLast?.getD ⟨#[]⟩) ++ (" " : Str)) ++ t]
noncomputable def rem1 (b : Str) (beside : Bool) (rs : List Str) (k : Int) : List Str := if beside then lastPut rs (tx k) else rs ++ [b ++ tx k]
noncomputable def remR (b : Str) (beside : Bool) : Nat → List Str → Int → List Str
  | 0, rs, _ => rs
  | m + 1, rs, k => remR b beside m (rem1 b beside rs k) (k + 1)
noncomputable def remC (b : Str) (beside : Bool) : Nat → List Str → Int → List Com
  | 0, _, _ => []
  | m + 1, rs, k => (tx k, k + 1, ((rem1 b beside rs k).length : Int)) :: remC b beside m (rem1 b beside rs k) (k + 1)
theorem lk856 (P : Params) : (K0 P).lookup 856 = some (ko856 P) := by kernel_rfl
noncomputable abbrev e856 (w : World) (L : Addr) : Env := callEnv (fdOf (ko856 w.params)) L 856
section
variable {w : World} {O : OsState} {A : Around} {E : Value → Shared → Prop} {s : Shared} {I : Im} {ms : Ms} {Q : Value → Shared → Prop}
theorem listD' {env : Env} {pos : Pos} {elts : List Expr} {p : Addr × Cel} (h : wpAny (model PG w) A (spliced (backTo pos (starEach elts env))) (fun vs s₁ => vs.length ≤ 1000 ∧ ∃ I ms p, St w O I (p :: ms) s₁ ∧ ∀ s' a, St w O I (p :: (a, .ls vs.toArray) :: ms) s' → Q (.ref a) s') E s) : wpAny (model PG w) A (eval (.List elts pos) env) Q E s :=
  wpAny_List (wpAny_mono h (fun vs s₁ ⟨hz, I, ms, p, S, k⟩ => ⟨by rw [sizeLine_eq]; (clear hz; (first | lia | omega)), k _ _ ((S.push (.ls vs.toArray) ⟨0, IsL.new _ _⟩).swap)⟩) fun _ _ y => y)
noncomputable abbrev riter (a n : Int) : Obj := { cls := .type "range_iterator", dict := none, data := .fields #[rawInt a, rawInt n, rawInt 1], slots := #[] }
theorem forRange {n : Nat} {L : Addr} {env : Env} {x : Str} {f : Str} {np px p1 pos : Pos} {e : Expr} {body : List Stmt} {mm : Nat} {Q : Flow → Shared → Prop} (hA : Ok A n) (V : EnvOk env L) (hx : env.kindOf x = some .local)
    (Inv : Nat → Im → (Str → Option Value) → Ms → Prop) (hm : mm ≤ 1000000)
    (he : wpAny (model PG w) A (eval (.Call (.Name f np) [e] [] p1) env) (fun v s₁ => ∃ r t u v' I m ms, v = .ref r ∧ IsRange s₁.heap r 0 mm 1 t u v' ∧ St w O I ((L, .ns m) :: ms) s₁ ∧ Inv 0 I m ms) E s)
    (turn : ∀ (j : Nat) I m ms s it t E', j < mm → Inv j I m ms → St w O I ((L, .ns (upd m x (.int j t))) :: (it, .ob (riter (j + 1) (mm - j - 1))) :: ms) s →
      wpAny (model PG w) A (execs body env) (fun fl s₃ => fl = .next ∧ ∃ I' m' ms', St w O I' ((L, .ns m') :: (it, .ob (riter (j + 1) (mm - j - 1))) :: ms') s₃ ∧ Inv (j + 1) I' m' ms') E' s)
    (fin : ∀ I m ms s, Inv mm I m ms → St w O I ((L, .ns m) :: ms) s → Q .next s) (hs : ∀ x, foldedSetIterable (.Call (.Name f np) [e] [] p1) env x = pure x := by intro _; rfl) :
    wpAny (model PG w) A (exec (.For (.Name x px) (.Call (.Name f np) [e] [] p1) body [] pos) env) Q E s := by
  refine wpAny_For (wpAny_mono he (fun v s₁ h₁ => ?_) fun _ _ y => y) hs
  obtain ⟨r, t, u, v', I, m, ms, rfl, hr, S, h0⟩ := h₁
  have hsz : Builtin.Range.rangeSize 0 mm 1 = mm := by rw [rangeSize_one]; split <;> (first | lia | omega)
  refine wpAny_pyIter_range hr (small_one (by decide) (by decide) (by (first | lia | omega)) (by (first | lia | omega))) ?_
  rw [hsz]
  have S1 : St w O I ((L, .ns m) :: (s₁.heap.objs.size, .ob (riter 0 mm)) :: ms) { s₁ with heap := s₁.heap.push (riter 0 mm) } := (S.push (.ob (riter 0 mm)) (x := riter 0 mm) (Heap.get?_push_size _ rfl)).swap
  refine codeAny_forLoop (fun k s => ∃ (j : Nat) (I : Im) (m : Str → Option Value) (ms : Ms), k = mm - j ∧ j ≤ mm ∧ Inv j I m ms ∧ St w O I ((L, .ns m) :: (s₁.heap.objs.size, .ob (riter j (mm - j))) :: ms) s) ?_ mm ⟨0, I, m, ms, rfl, Nat.zero_le _, h0, by simpa using S1⟩
  rintro k s₂ ⟨j, I, m, ms, rfl, hj, hi, S⟩
  rcases Nat.lt_or_ge j mm with hlt | hge
  · refine wpAny_pyNext_range_item (x := j) (left := mm - j) (step := 1) (S.get (i := 1) rfl) (by (clear hm hj; (first | lia | omega))) fun h' hit hs => ?_
    dsimp only
    have S2 : St w O I ((L, .ns m) :: (s₁.heap.objs.size, .ob (riter (j + 1) (mm - j - 1))) :: ms) { s₂ with heap := h', toks := s₂.toks + 1 } := S.set (i := 1) rfl (fun b hb o e => (hs.2 b hb).trans e) hit S.gens
    refine wpAny_assign_Name (sL S2 V hx fun s₃ S3 => ?_)
    refine wpAny_mono (turn j I m ms s₃ _ _ _ hlt hi S3) (fun fl s₄ h₄ => ?_) fun _ _ y => y
    obtain ⟨rfl, I', m', ms', S4, h4⟩ := h₄
    exact ⟨mm - (j + 1), by (clear hm hj; (first | lia | omega)), j + 1, I', m', ms', rfl, hlt, h4, by
      have e1 : (mm : Int) - ((j + 1 : Nat) : Int) = mm - j - 1 := by (clear hm hsz hj hlt; (first | lia | omega))
      rw [e1]; exact S4⟩
  · have : j = mm := by (clear hm; (first | lia | omega))
    subst this
    refine wpAny_pyNext_range_end hA.h (S.get (i := 1) rfl) (by (clear hm hsz hj hge; (first | lia | omega))) fun h' hs => ?_
    dsimp only
    refine wpAny_execs_nil (fin I m ms _ hi ?_)
    exact (St.drop0 (s' := { s₂ with heap := h' }) S.swap (fun b o hb e => hs b o hb e) S.gens)
noncomputable def tl (rs : List Str) : Nat := (rs.map Str.length).sum
theorem digits5 {k : Int} (h0 : 0 ≤ k) (h : k < 100000) : (Str.ofString (toString k)).length ≤ 6 := by
  have := PyProof.Rows.toString_length_le (k := 5) h0 (by decide) (by simpa using h)
  (clear h0 h; (first | lia | omega))
theorem Str.length_append' (a b : Str) : (a ++ b).length = a.length + b.length := by show (a.cps ++ b.cps).size = _; rw [Array.size_append]; rfl
theorem tx_len {k : Int} (h0 : 0 ≤ k) (h : k < 100000) : (tx k).length ≤ 12 := by
  unfold tx
  rw [Str.length_append', Str.length_append']
  have := digits5 h0 h
  have e1 : ("--[[" : Str).length = 4 := by decide +kernel
  have e2 : ("]]" : Str).length = 2 := by decide +kernel
  (clear h0 h; (first | lia | omega))
theorem tl_app (a b : List Str) : tl (a ++ b) = tl a + tl b := by unfold tl; simp
theorem tl_one (a : Str) : tl [a] = a.length := by simp [tl]
theorem rem1_tl {b : Str} {beside : Bool} {rs : List Str} {k : Int} (h0 : 0 ≤ k) (h : k < 100000) : tl (rem1 b beside rs k) ≤ tl rs + (b.length + 20) := by
  have := tx_len h0 h
  unfold rem1; split
  · unfold lastPut
    rw [tl_app]
    have e : tl [((rs.getLast?.getD ⟨#[]⟩) ++ (" " : Str)) ++ tx k] = (rs.getLast?.getD ⟨#[]⟩).length + 1 + (tx k).length := by
      rw [tl_one, Str.length_append', Str.length_append']; rfl
    rw [e]
    rcases List.eq_nil_or_concat rs with rfl | ⟨r, a, rfl⟩
    · have : (([] : List Str).getLast?.getD ⟨#[]⟩).length = 0 := rfl
      have : tl ([] : List Str).dropLast = 0 := rfl
      (clear h0 h; (first | lia | omega))
    · simp only [List.concat_eq_append, List.dropLast_concat, List.getLast?_append, List.getLast?_singleton, Option.some_or, Option.getD_some, tl_app]
      have := tl_one a
      (clear h0 h; (first | lia | omega))
  · rw [tl_app]
    have : tl [b ++ tx k] = b.length + (tx k).length := by rw [tl_one, Str.length_append']
    (clear h0 h; (first | lia | omega))
theorem StrsAre.len {vs : List Value} {rs : List Str} (h : StrsAre vs rs) : vs.length = rs.length := by
  induction h with
  | nil => rfl
  | cons _ _ _ ih => simp [ih]
theorem StrsAre.app {vs us : List Value} {rs qs : List Str} (h : StrsAre vs rs) (k : StrsAre us qs) : StrsAre (vs ++ us) (rs ++ qs) := by
  induction h with
  | nil => exact k
  | cons y t _ ih => exact .cons y t ih
theorem StrsAre.last {vs : List Value} {rs : List Str} (h : StrsAre vs rs) (hn : rs ≠ []) : ∃ vs' rs' y t, vs = vs' ++ [.str y t] ∧ rs = rs' ++ [y] ∧ StrsAre vs' rs' := by
  induction h with
  | nil => exact absurd rfl hn
  | cons y t h ih =>
    cases h with
    | nil => exact ⟨[], [], y, t, rfl, rfl, .nil⟩
    | cons z u h =>
      obtain ⟨vs', rs', y', t', e1, e2, e3⟩ := ih (by simp)
      exact ⟨_ :: vs', _ :: rs', y', t', by rw [e1]; rfl, by rw [e2]; rfl, .cons y t e3⟩
theorem rem1_ne {b : Str} {beside : Bool} {rs : List Str} {k : Int} : rem1 b beside rs k ≠ [] := by
  unfold rem1; split <;> simp [lastPut]
theorem rem1_len {b : Str} {beside : Bool} {rs : List Str} {k : Int} : (rem1 b beside rs k).length ≤ rs.length + 1 := by
  unfold rem1; split
  · simp [lastPut]
  · simp
end

end
section
structure RV (m : Str → Option Value) (R T l : Addr) (b : Str) (tb : Tok) (beside : Bool) : Prop where
  m1 : m "rows" = some (.ref R)
  m2 : m "seat" = some (.ref T)
  m3 : m "blanks" = some (.str b tb)
  m4 : m "beside" = some (.bool beside)
  m5 : m "laid" = some (.ref l)
structure RF (I I' : Im) (lv rv' : Array Value) (rs rs' : List Str) (cs : List Com) (b : Str) (beside : Bool) (mm j : Nat) (k : Int) : Prop where
  hl : Le I I'
  hcs : IComs I' lv.toList cs
  hrv : StrsAre rv'.toList rs'
  hR : remR b beside mm rs k = remR b beside (mm - j) rs' (k + j)
  hC : remC b beside mm rs k = cs ++ remC b beside (mm - j) rs' (k + j)
  h3 : lv.size ≤ j
  h4 : tl rs' ≤ tl rs + j * (b.length + 20)
  h5 : rs'.length ≤ rs.length + j
  ne : beside = true → rs' ≠ []
  le : j ≤ mm
noncomputable def RInv (I : Im) (ms : Ms) (R T l : Addr) (rs : List Str) (b : Str) (tb : Tok) (beside : Bool) (mm : Nat) (k : Int) (j : Nat) (I' : Im) (m : Str → Option Value) (ms' : Ms) : Prop :=
  ∃ lv rv' t' rs' cs, ms' = (l, .ls lv) :: (R, .ls rv') :: (T, .ls #[.int (k + j) t']) :: ms ∧ RV m R T l b tb beside ∧ RF I I' lv rv' rs rs' cs b beside mm j k
noncomputable def forR : List Stmt := match (fnB (stA 26))[1]? with | some (Stmt.For _ _ b _ _) => b | _ => []
section
variable {w : World} {O : OsState} {A : Around} {E : Value → Shared → Prop} {s : Shared} {I : Im} {ms : Ms} {Q : Value → Shared → Prop}
theorem remarks_spec {n : Nat} {R T : Addr} {rv : Array Value} {rs : List Str} {k : Int} {t tb tm : Tok} {mm : Nat} {b : Str} {beside : Bool} (hA : Ok A (n + 9)) (S : St w O I ((R, .ls rv) :: (T, .ls #[.int k t]) :: ms) s) (hr : StrsAre rv.toList rs)
    (hm : mm ≤ 10) (hk0 : 0 ≤ k) (hk : k ≤ 10000) (hrs : beside = true → rs ≠ []) (hz : tl rs + 10 * (b.length + 20) ≤ 10000000) (hz2 : rs.length ≤ 90000)
    (q : ∀ s' J l lv rv' t', Le I J → ILst J l lv → IComs J lv.toList (remC b beside mm rs k) → StrsAre rv'.toList (remR b beside mm rs k) → St w O J ((R, .ls rv') :: (T, .ls #[.int (k + mm) t']) :: ms) s' → Q (.ref l) s') :
    codeAny (model PG w) A (.call (.ref 856) ⟨[.int mm tm, .ref R, .ref T, .str b tb, .bool beside], []⟩) (wants Q E) s := by
  refine enter (n := n + 8) (binds := [("many", .int mm tm), ("rows", .ref R), ("seat", .ref T), ("blanks", .str b tb), ("beside", .bool beside)]) S hA (lk856 _) rfl rfl (by kernel_rfl) (.of_eq (by kernel_rfl)) fun A' L s' E' hA' V S => ?_
  change wpAny _ A' (execs (fnB (stA 26)) (e856 w L)) _ _ _
  refine wpAny_execs_cons ?_
  ((with_reducible show wpAny _ _ (exec (.Assign [.Name _ _] _ _) _) _ _ _); refine wpAny_Assign_Name ?_)
  refine listD S fun s₁ l S => ?_
  ((with_reducible show wpAny _ _ (storeName _ _ _) _ _ _); refine sL (by assumption) (by assumption) (by kernel_rfl) ?_; intro _ _)
  rename_i S
  with_reducible refine wpAny_execs_cons ?_
  refine forRange (O := O) hA' V (by kernel_rfl) (mm := mm) (RInv I ms R T l rs b tb beside mm k) (by (clear hk0 hk hz hz2; (first | lia | omega))) ?_ ?_ ?_
  · refine callTy (T := "range") (by assumption) V (by kernel_rfl) (bl2 _) bv2 (by decide +kernel) (by decide +kernel) ?_
    ((with_reducible show wpAny _ _ (spliced (backTo _ (starEach (_ :: _) _))) _ _ _); refine wpAny_items_cons ?_)
    ((with_reducible show wpAny _ _ (eval (.Name _ _) _) _ _ _); refine nL (by assumption) (by assumption) (by kernel_rfl) (by first | with_unfolding_all rfl | with_unfolding_all assumption) ?_ (by decide +kernel))
    ((with_reducible show wpAny _ _ (spliced (backTo _ (starEach [] _))) _ _ _); refine wpAny_items_nil ?_)
    refine call_range_1 ⟨_, _, _, _, I, _, _, rfl, IsRange.new _ _ _ _ _ _ _, S.ext (fun b o e => Heap.get?_push_of_some _ e) S.gens, #[], rv, t, rs, [], by simp, ⟨?_, ?_, ?_, ?_, ?_⟩, ⟨.rfl, .nil, hr, by simp, by simp, Nat.le_refl _, by (clear hm hk0 hk hz hz2; (first | lia | omega)), by (clear hm hk0 hk hz hz2; (first | lia | omega)), hrs, by (clear hk0 hk hz hz2; (first | lia | omega))⟩⟩ <;> with_unfolding_all rfl
  · rintro j I' m ms' s it tj E₁ hj ⟨lv, rv', t', rs', cs, rfl, ⟨m1, m2, m3, m4, m5⟩, hl, hcs, hrv, hR, hC, hz3, hz4, hz5, hne, _⟩ S
    refine wpAny_execs_cons ?_
    ((with_reducible show wpAny _ _ (exec (.Assign [.Name _ _] _ _) _) _ _ _); refine wpAny_Assign_Name ?_)
    with_reducible refine wpAny_BinOp ?_
    with_reducible refine wpAny_BinOp ?_
    (with_reducible refine cS (by assumption) ?_; intro _ _ _)
    dsimp only
    refine callTy (T := "str") (by assumption) V (by kernel_rfl) (bl3 _) bv3 (by decide +kernel) (by decide +kernel) ?_
    ((with_reducible show wpAny _ _ (spliced (backTo _ (starEach (_ :: _) _))) _ _ _); refine wpAny_items_cons ?_)
    with_reducible refine Subscript_ ?_
    ((with_reducible show wpAny _ _ (eval (.Name _ _) _) _ _ _); refine nL (by assumption) (by assumption) (by kernel_rfl) (by first | with_unfolding_all rfl | with_unfolding_all assumption) ?_ (by decide +kernel))
    (with_reducible refine cI (by assumption) ?_; intro _ _ _)
    refine getI (v := .int (k + j) t') (St.gl (i := 4) (by assumption) (by rfl)) (by decide) (by show 1 < 1000000; decide) (by rfl) ?_
    ((with_reducible show wpAny _ _ (spliced (backTo _ (starEach [] _))) _ _ _); refine wpAny_items_nil ?_)
    have hd5 := digits5 (k := k + j) (by (clear hz hz2 hz3 hz4 hz5; (first | lia | omega))) (by (clear hz hz2 hz3 hz4 hz5; (first | lia | omega)))
    have e4 : ("--[[" : Str).length = 4 := by decide +kernel
    have e2 : ("]]" : Str).length = 2 := by decide +kernel
    have htx := tx_len (k := k + j) (by (clear hz hz2 hz3 hz4 hz5 hd5 e4 e2; (first | lia | omega))) (by (clear hz hz2 hz3 hz4 hz5 hd5 e4 e2; (first | lia | omega)))
    have hmul : j * (b.length + 20) ≤ 10 * (b.length + 20) := Nat.mul_le_mul_right _ (by (clear hk0 hk hz hz2 hz3 hz4 hz5 hd5 e4 e2 htx; (first | lia | omega)))
    refine strI (by assumption) (by (clear hz hz2 hz3 hz4 hz5 hd5 e4 e2 htx hmul; (first | lia | omega))) (by (clear hz hz2 hz3 hz4 hz5 hd5 e4 e2 htx hmul; (first | lia | omega))) fun s₂ t₂ S => ?_
    refine addS (by assumption) (by (clear hm hk0 hk hz hz2 hj hz3 hz4 hz5 e2 htx hmul; (first | lia | omega))) fun s₂ t₂ S => ?_
    (with_reducible refine cS (by assumption) ?_; intro _ _ _)
    refine addS (by assumption) (by rw [Str.length_append']; (clear hm hk0 hk hz hz2 hj hz3 hz4 hz5 htx hmul; (first | lia | omega))) fun s₂ t₂ S => ?_
    change wpAny _ _ (storeName _ _ (.str (tx (k + j)) t₂)) _ _ _
    have rest : ∀ (rv₂ : Array Value) s₃ m₃, StrsAre rv₂.toList (rem1 b beside rs' (k + j)) → m₃ "rows" = some (.ref R) → m₃ "seat" = some (.ref T) → m₃ "blanks" = some (.str b tb) → m₃ "beside" = some (.bool beside) → m₃ "laid" = some (.ref l) → m₃ "text" = some (.str (tx (k + j)) t₂) →
        St w O I' ((L, .ns m₃) :: (it, .ob (riter (j + 1) (mm - j - 1))) :: (l, .ls lv) :: (R, .ls rv₂) :: (T, .ls #[.int (k + j) t']) :: ms) s₃ →
        wpAny (model PG w) A' (execs (forR.drop 2) (e856 w L)) (fun fl s₃ => fl = .next ∧ ∃ I'' m' ms'', St w O I'' ((L, .ns m') :: (it, .ob (riter (j + 1) (mm - j - 1))) :: ms'') s₃ ∧ RInv I ms R T l rs b tb beside mm k (j + 1) I'' m' ms'') E₁ s₃ := by
      intro rv₂ s₃ m₃ hrv₂ n1 n2 n3 n4 n5 n6 S
      refine wpAny_execs_cons ?_
      refine appendO (O := O) ?_
      ((with_reducible show wpAny _ _ (eval (.Name _ _) _) _ _ _); refine nL (by assumption) (by assumption) (by kernel_rfl) (by first | with_unfolding_all rfl | with_unfolding_all assumption) ?_ (by decide +kernel))
      dsimp only
      obtain ⟨nl, hlo⟩ := S.lo (i := 2) rfl
      refine ⟨l, lv, nl, rfl, hlo, ?_⟩
      refine callK (v := .ref 148) S V (by kernel_rfl) (gl3 _) (by kernel_rfl) (by decide +kernel) (by rfl) ?_
      ((with_reducible show wpAny _ _ (spliced (backTo _ (starEach (_ :: _) _))) _ _ _); refine wpAny_items_cons ?_)
      ((with_reducible show wpAny _ _ (eval (.Name _ _) _) _ _ _); refine nL (by assumption) (by assumption) (by kernel_rfl) (by first | with_unfolding_all rfl | with_unfolding_all assumption) ?_ (by decide +kernel))
      ((with_reducible show wpAny _ _ (spliced (backTo _ (starEach (_ :: _) _))) _ _ _); refine wpAny_items_cons ?_)
      with_reducible refine cB ?_
      ((with_reducible show wpAny _ _ (spliced (backTo _ (starEach [] _))) _ _ _); refine wpAny_items_nil ?_)
      refine wpAny_evalAll_cons (wpAny_bind ?_)
      refine callF (v := .ref 849) (by assumption) V (by kernel_rfl) (gl15 _) (by kernel_rfl) (by decide +kernel) ?_
      ((with_reducible show wpAny _ _ (spliced (backTo _ (starEach (_ :: _) _))) _ _ _); refine wpAny_items_cons ?_)
      ((with_reducible show wpAny _ _ (eval (.Name _ _) _) _ _ _); refine nL (by assumption) (by assumption) (by kernel_rfl) (by first | with_unfolding_all rfl | with_unfolding_all assumption) ?_ (by decide +kernel))
      ((with_reducible show wpAny _ _ (spliced (backTo _ (starEach (_ :: _) _))) _ _ _); refine wpAny_items_cons ?_)
      ((with_reducible show wpAny _ _ (eval (.Name _ _) _) _ _ _); refine nL (by assumption) (by assumption) (by kernel_rfl) (by first | with_unfolding_all rfl | with_unfolding_all assumption) ?_ (by decide +kernel))
      ((with_reducible show wpAny _ _ (spliced (backTo _ (starEach [] _))) _ _ _); refine wpAny_items_nil ?_)
      dsimp only
      have hl₂ := StrsAre.len hrv₂
      have hl₃ := rem1_len (b := b) (beside := beside) (rs := rs') (k := k + j)
      have hl₄ : rv₂.toList.length = rv₂.size := Array.length_toList
      refine ⟨S.kin, wpAny_call (sign_spec (n := n + 5) hA' (St.front (l₁ := [_, _, _, _]) (St.front (l₁ := [_, _, _, _]) S)) (by (clear hk0 hk hz hz3 hz4 hd5 e4 e2 htx hmul; (first | lia | omega))) fun s₄ J v t₄ lJ hv S => ?_)⟩
      refine wpAny_bind (wpAny_standAt (wpAny_pure (wpAny_evalAll_nil ?_)))
      refine ⟨S.kin, wpAny_call (newComment (n := n + 2) hA' S (.inl rfl) (of := some (_, _)) hv (ol := none) rfl (Kw.one v) fun s₅ J' x nm c' f' l' l2 hc hf hll hI S => ?_)⟩
      have S := St.front (l₁ := [_, _, _, _]) (St.front (l₁ := [_, _, _, _]) (St.front (l₁ := [_, _, _, _]) S))
      refine ⟨J', _, 2, lv, S, rfl, by (clear hk0 hk hz hz2 hz4 hz5 hd5 e4 e2 htx hmul hl₂ hl₃ hl₄; (first | lia | omega)), fun s₆ S => ?_⟩
      try dsimp only
      refine wpAny_execs_nil ⟨rfl, J', m₃, _, S, lv.push (.ref x), rv₂, t₄, rem1 b beside rs' (k + j), cs ++ [(tx (k + j), k + j + 1, ((rem1 b beside rs' (k + j)).length : Int))], ?_, ⟨n1, n2, n3, n4, n5⟩, (hl.trans lJ).trans l2, ?_, hrv₂, ?_, ?_, ?_, ?_, ?_, fun _ => rem1_ne, hj⟩
      · rw [show k + (j : Int) + 1 = k + ((j + 1 : Nat) : Int) by (clear hm hk0 hk hz hz2 hj hz3 hz4 hz5 hd5 e4 e2 htx hmul hl₂ hl₃ hl₄; (first | lia | omega))]; rfl
      · rw [Array.toList_push]
        refine ((hcs.le lJ).le l2).app (.cons ⟨x, _, f', t₂, rfl, hI, rfl, rfl, ?_⟩ .nil)
        have e : (rv₂.size : Int) = ((rem1 b beside rs' (k + j)).length : Int) := by rw [← hl₄, hl₂]
        rw [e] at hf; exact hf
      · rw [hR, show mm - j = (mm - (j + 1)) + 1 by (clear hm hk0 hk hz hz2 hz3 hz4 hz5 hd5 e4 e2 htx hmul hl₂ hl₃ hl₄; (first | lia | omega))]
        show remR b beside (mm - (j + 1)) (rem1 b beside rs' (k + j)) (k + j + 1) = _
        rw [show k + (j : Int) + 1 = k + ((j + 1 : Nat) : Int) by (clear hm hk0 hk hz hz2 hj hz3 hz4 hz5 hd5 e4 e2 htx hmul hl₂ hl₃ hl₄; (first | lia | omega))]
      · rw [hC, show mm - j = (mm - (j + 1)) + 1 by (clear hm hk0 hk hz hz2 hz3 hz4 hz5 hd5 e4 e2 htx hmul hl₂ hl₃ hl₄; (first | lia | omega))]
        show cs ++ (_ :: remC b beside (mm - (j + 1)) (rem1 b beside rs' (k + j)) (k + j + 1)) = _
        rw [show k + (j : Int) + 1 = k + ((j + 1 : Nat) : Int) by (clear hm hk0 hk hz hz2 hj hz3 hz4 hz5 hd5 e4 e2 htx hmul hl₂ hl₃ hl₄; (first | lia | omega))]; simp
      · rw [Array.size_push]; (clear hm hk0 hk hz hz2 hj hz4 hz5 hd5 e4 e2 htx hmul hl₂ hl₃ hl₄; (first | lia | omega))
      · have := rem1_tl (b := b) (beside := beside) (rs := rs') (k := k + j) (by (clear hz hz2 hz3 hz4 hz5 hd5 e4 e2 htx hmul hl₂ hl₃ hl₄; (first | lia | omega))) (by (clear hz hz2 hz3 hz4 hz5 hd5 e4 e2 htx hmul hl₂ hl₃ hl₄; (first | lia | omega)))
        rw [Nat.add_mul, Nat.one_mul]; (clear hm hk0 hk hz hz2 hj hz3 hz5 hd5 e4 e2 htx hmul hl₂ hl₃ hl₄; (first | lia | omega))
      · (clear hm hk0 hk hz hz2 hj hz3 hz4 hd5 e4 e2 htx hmul; (first | lia | omega))
    refine sL S V (by kernel_rfl) fun s₃ S => ?_
    try dsimp only
    refine wpAny_execs_cons ?_
    with_reducible refine wpAny_If ?_
    ((with_reducible show wpAny _ _ (isTrue (.Name _ _) _ _) _ _ _); refine isTrue_plain ?_)
    ((with_reducible show wpAny _ _ (eval (.Name _ _) _) _ _ _); refine nL (by assumption) (by assumption) (by kernel_rfl) (by first | with_unfolding_all rfl | with_unfolding_all assumption) ?_ (by decide +kernel))
    with_reducible refine wpAny_truthy_bool ?_
    have hln := StrsAre.len hrv
    rw [Array.length_toList] at hln
    cases beside with
    | true =>
      refine iteT rfl ?_
      obtain ⟨vs', qs, y, ty, ev, er, hvs⟩ := StrsAre.last hrv (hne rfl)
      have ev' : rv' = (vs' ++ [Value.str y ty]).toArray := by rw [← ev]
      subst er; subst ev'
      rw [tl_app, tl_one] at hz4
      have hsz : (vs' ++ [Value.str y ty]).toArray.size = vs'.length + 1 := by simp
      with_reducible refine wpAny_execs_cons ?_
      ((with_reducible show wpAny _ _ (exec (.Assign [.Subscript _ _ _] _ _) _) _ _ _); refine wpAny_Assign_Subscript ?_)
      with_reducible refine wpAny_BinOp ?_
      with_reducible refine wpAny_BinOp ?_
      with_reducible refine Subscript_ ?_
      ((with_reducible show wpAny _ _ (eval (.Name _ _) _) _ _ _); refine nL (by assumption) (by assumption) (by kernel_rfl) (by first | with_unfolding_all rfl | with_unfolding_all assumption) ?_ (by decide +kernel))
      with_reducible refine wpAny_UnaryOp ?_
      (with_reducible refine cI (by assumption) ?_; intro _ _ _)
      (with_reducible refine oNeg (by assumption) ?_; intro _ _ _)
      dsimp only
      refine getB (v := .str y ty) (St.gl (i := 3) (by assumption) (by rfl)) (by decide) (by (clear hm hk0 hk hz hz2 hj hz3 hd5 e4 e2 htx hmul hz4 hz5 hln; (first | lia | omega))) (by (clear hk0 hk hz hz3 hd5 e4 e2 htx hmul hz4; (first | lia | omega))) (by rw [hsz, show (-1 + ((vs'.length + 1 : Nat) : Int)).toNat = vs'.length by (clear hm hk0 hk hz hz2 hj hz3 hd5 e4 e2 htx hmul hz4 hz5 hln hsz; (first | lia | omega))]; simp) ?_
      (with_reducible refine cS (by assumption) ?_; intro _ _ _)
      have e1 : (" " : Str).length = 1 := by decide +kernel
      refine addS (by assumption) (by (clear hm hk0 hk hz2 hj hz3 hd5 e4 e2 htx hz5 hln hsz; (first | lia | omega))) fun s₄ t₄ S => ?_
      ((with_reducible show wpAny _ _ (eval (.Name _ _) _) _ _ _); refine nL (by assumption) (by assumption) (by kernel_rfl) (by first | with_unfolding_all rfl | with_unfolding_all assumption) ?_ (by decide +kernel))
      refine addS (by assumption) (by rw [Str.length_append']; (clear hm hk0 hk hz2 hj hz3 hd5 e4 e2 hz5 hln hsz; (first | lia | omega))) fun s₄ t₄ S => ?_
      ((with_reducible show wpAny _ _ (eval (.Name _ _) _) _ _ _); refine nL (by assumption) (by assumption) (by kernel_rfl) (by first | with_unfolding_all rfl | with_unfolding_all assumption) ?_ (by decide +kernel))
      with_reducible refine wpAny_UnaryOp ?_
      (with_reducible refine cI (by assumption) ?_; intro _ _ _)
      (with_reducible refine oNeg (by assumption) ?_; intro _ _ _)
      refine setB (i := 3) (by assumption) (by rfl) (by decide) (by (clear hm hk0 hk hz hz2 hj hz3 hd5 e4 e2 htx hmul hz4 hz5 hln e1; (first | lia | omega))) (by (clear hk0 hk hz hz3 hd5 e4 e2 htx hmul hz4 e1; (first | lia | omega))) fun s₅ S => ?_
      refine wpAny_execs_nil ?_
      have es : (vs' ++ [Value.str y ty]).toArray.setIfInBounds (-1 + ((vs' ++ [Value.str y ty]).toArray.size : Int)).toNat (.str ((y ++ (" " : Str)) ++ tx (k + j)) t₄) = (vs' ++ [Value.str ((y ++ (" " : Str)) ++ tx (k + j)) t₄]).toArray := by
        rw [hsz, show (-1 + ((vs'.length + 1 : Nat) : Int)).toNat = vs'.length by (clear hm hk0 hk hz hz2 hj hz3 hd5 e4 e2 htx hmul hz4 hz5 hln hsz e1; (first | lia | omega))]; simp
      refine rest (vs' ++ [Value.str ((y ++ (" " : Str)) ++ tx (k + j)) t₄]).toArray s₅ (upd (upd m "k" (.int j tj)) "text" (.str (tx (k + j)) t₂)) ?_ (by with_unfolding_all exact m1) (by with_unfolding_all exact m2) (by with_unfolding_all exact m3) (by with_unfolding_all exact m4) (by with_unfolding_all exact m5) (by with_unfolding_all rfl) (by rw [← es]; exact S)
      have : rem1 b true (qs ++ [y]) (k + j) = qs ++ [(y ++ (" " : Str)) ++ tx (k + j)] := by simp [rem1, lastPut]
      rw [this]
      exact StrsAre.app hvs (.cons _ _ .nil)
    | false =>
      refine iteF rfl ?_
      refine wpAny_execs_cons (appendO (O := O) ?_)
      ((with_reducible show wpAny _ _ (eval (.Name _ _) _) _ _ _); refine nL (by assumption) (by assumption) (by kernel_rfl) (by first | with_unfolding_all rfl | with_unfolding_all assumption) ?_ (by decide +kernel))
      dsimp only
      obtain ⟨nl, hlo⟩ := St.lo (s := s₃) (i := 3) (by assumption) rfl
      refine ⟨R, rv', nl, rfl, hlo, ?_⟩
      with_reducible refine wpAny_BinOp ?_
      ((with_reducible show wpAny _ _ (eval (.Name _ _) _) _ _ _); refine nL (by assumption) (by assumption) (by kernel_rfl) (by first | with_unfolding_all rfl | with_unfolding_all assumption) ?_ (by decide +kernel))
      ((with_reducible show wpAny _ _ (eval (.Name _ _) _) _ _ _); refine nL (by assumption) (by assumption) (by kernel_rfl) (by first | with_unfolding_all rfl | with_unfolding_all assumption) ?_ (by decide +kernel))
      refine addS (by assumption) (by (clear hm hk0 hk hz2 hj hz3 hz4 hz5 hd5 e4 e2 hmul hln; (first | lia | omega))) fun s₄ t₄ S => ?_
      refine ⟨I', _, 3, rv', S, rfl, by (clear hk0 hk hz hz3 hz4 hd5 e4 e2 htx hmul; (first | lia | omega)), fun s₅ S => wpAny_execs_nil ?_⟩
      refine rest (rv'.push (.str (b ++ tx (k + j)) t₄)) s₅ (upd (upd m "k" (.int j tj)) "text" (.str (tx (k + j)) t₂)) ?_ (by with_unfolding_all exact m1) (by with_unfolding_all exact m2) (by with_unfolding_all exact m3) (by with_unfolding_all exact m4) (by with_unfolding_all exact m5) (by with_unfolding_all rfl) S
      rw [Array.toList_push]
      exact StrsAre.app hrv (.cons _ _ .nil)
  · rintro I' m ms' s ⟨lv, rv', t', rs', cs, rfl, ⟨m1, m2, m3, m4, m5⟩, hl, hcs, hrv, hR, hC, hz3, hz4, hz5, hne, _⟩ S
    try dsimp only
    with_reducible refine wpAny_execs_cons ?_
    with_reducible refine wpAny_Return_some ?_
    ((with_reducible show wpAny _ _ (eval (.Name _ _) _) _ _ _); refine nL (by assumption) (by assumption) (by kernel_rfl) (by first | with_unfolding_all rfl | with_unfolding_all assumption) ?_ (by decide +kernel))
    dsimp only
    obtain ⟨J, S, l1, H⟩ := (S.swap).fixL
    rw [Nat.sub_self] at hR hC
    refine q _ J l lv rv' t' (hl.trans l1) H ?_ ?_ S.tail
    · rw [hC]; simpa [remC] using hcs.le l1
    · rw [hR]; exact hrv
end

end
section
theorem HandC.le {I J : Im} {c : Cel} (h : HandC I c) (l : Le I J) : HandC J c := by
  obtain ⟨C, xs, a, b, t1, t2, e, hC, r⟩ := h
  exact ⟨C, xs, a, b, t1, t2, e, hC.le l, r⟩
theorem lk863 (P : Params) : (K0 P).lookup 863 = some (ko863 P) := by kernel_rfl
noncomputable abbrev e863 (w : World) (L : Addr) : Env := callEnv (fdOf (ko863 w.params)) L 863
section
variable {w : World} {O : OsState} {A : Around} {E : Value → Shared → Prop} {s : Shared} {I : Im} {ms : Ms} {Q : Value → Shared → Prop}
theorem remR_len {b : Str} {beside : Bool} : ∀ {mm : Nat} {rs : List Str} {k : Int}, (remR b beside mm rs k).length ≤ rs.length + mm
  | 0, _, _ => Nat.le_refl _
  | mm + 1, rs, k => by
    have h1 := remR_len (b := b) (beside := beside) (mm := mm) (rs := rem1 b beside rs k) (k := k + 1)
    have h2 := rem1_len (b := b) (beside := beside) (rs := rs) (k := k)
    show (remR b beside mm (rem1 b beside rs k) (k + 1)).length ≤ _
    (first | lia | omega)
theorem remC_len {b : Str} {beside : Bool} : ∀ {mm : Nat} {rs : List Str} {k : Int}, (remC b beside mm rs k).length = mm
  | 0, _, _ => rfl
  | mm + 1, rs, k => by show (remC b beside mm _ _).length + 1 = mm + 1; rw [remC_len]
theorem remR_tl {b : Str} {beside : Bool} : ∀ {mm : Nat} {rs : List Str} {k : Int}, 0 ≤ k → k + mm < 100000 → tl (remR b beside mm rs k) ≤ tl rs + mm * (b.length + 20)
  | 0, rs, _, _, _ => by show tl rs ≤ _; (first | lia | omega)
  | mm + 1, rs, k, h0, h1 => by
    have h2 := remR_tl (b := b) (beside := beside) (mm := mm) (rs := rem1 b beside rs k) (k := k + 1) (by (clear h1; (first | lia | omega))) (by (clear h0; (first | lia | omega)))
    have h3 := rem1_tl (b := b) (beside := beside) (rs := rs) (k := k) h0 (by (clear h0 h2; (first | lia | omega)))
    show tl (remR b beside mm (rem1 b beside rs k) (k + 1)) ≤ _
    rw [Nat.add_mul, Nat.one_mul]; (clear h0 h1; (first | lia | omega))
theorem remR_ne {b : Str} {beside : Bool} : ∀ {mm : Nat} {rs : List Str} {k : Int}, rs ≠ [] → remR b beside mm rs k ≠ []
  | 0, _, _, h => h
  | mm + 1, rs, k, _ => remR_ne (mm := mm) (rs := rem1 b beside rs k) (k := k + 1) rem1_ne
theorem addL {l1 l2 : Addr} {v1 v2 : Array Value} {p : Addr × Cel} (S : St w O I (p :: ms) s) (h1 : ILst I l1 v1) (h2 : ILst I l2 v2) (hz : v1.size + v2.size ≤ 10000000)
    (h : ∀ s' J a, Le I J → ILst J a (v1 ++ v2) → St w O J (p :: ms) s' → Q (.ref a) s') : wpAny (model PG w) A (binaryOp .Add (.ref l1) (.ref l2)) Q E s := by
  obtain ⟨n1, e1⟩ := h1.at S
  obtain ⟨n2, e2⟩ := h2.at S
  refine P.add_list e1 e2 ?_ (by rw [sizeLine_eq]; (first | lia | omega))
  obtain ⟨J, S2, l, H⟩ := (S.push (.ls (v1 ++ v2)) ⟨0, IsL.new _ _⟩).fixL
  exact h _ J _ l H S2
theorem behind_spec {n : Nat} {H R T al : Addr} {c : Cel} {rv av : Array Value} {rs : List Str} {as : List Com} {k : Int} {t tb : Tok} {b : Str} (hA : Ok A (n + 10)) (S : St w O I ((H, c) :: (R, .ls rv) :: (T, .ls #[.int k t]) :: ms) s) (hc : HandC I c) (hr : StrsAre rv.toList rs) (ha : ILst I al av) (has : IComs I av.toList as)
    (hk0 : 0 ≤ k) (hk : k ≤ 9000) (hrs : rs ≠ []) (hz : tl rs + 20 * (b.length + 20) ≤ 10000000) (hz2 : rs.length ≤ 80000) (hz3 : as.length ≤ 1000)
    (q : ∀ s' J l lv rv' t' c' (m1 m2 : Nat) (fl : Bool), Le I J → HandC J c' → m1 ≤ 2 → m2 ≤ 2 → ILst J l lv →
      IComs J lv.toList (if fl then as ++ (remC b true m1 rs k ++ remC b false m2 (remR b true m1 rs k) (k + m1)) else (remC b true m1 rs k ++ remC b false m2 (remR b true m1 rs k) (k + m1)) ++ as) →
      StrsAre rv'.toList (remR b false m2 (remR b true m1 rs k) (k + m1)) → St w O J ((H, c') :: (R, .ls rv') :: (T, .ls #[.int (k + m1 + m2) t']) :: ms) s' → Q (.ref l) s') :
    codeAny (model PG w) A (.call (.ref 863) ⟨[.ref H, .ref R, .ref T, .str b tb, .ref al], []⟩) (wants Q E) s := by
  refine enter (n := n + 9) (binds := [("hand", .ref H), ("rows", .ref R), ("seat", .ref T), ("blanks", .str b tb), ("ahead", .ref al)]) S hA (lk863 _) rfl rfl (by kernel_rfl) (.of_eq (by kernel_rfl)) fun A' L s' E' hA' V S => ?_
  change wpAny _ A' (execs (fnB (stA 27)) (e863 w L)) _ _ _
  refine wpAny_execs_cons ?_
  ((with_reducible show wpAny _ _ (exec (.Assign [.Name _ _] _ _) _) _ _ _); refine wpAny_Assign_Name ?_)
  dsimp only
  refine callF (v := .ref 856) (by assumption) V (by kernel_rfl) (gl16 _) (by kernel_rfl) (by decide +kernel) ?_
  ((with_reducible show wpAny _ _ (spliced (backTo _ (starEach (_ :: _) _))) _ _ _); refine wpAny_items_cons ?_)
  refine callF (v := .ref 842) (by assumption) V (by kernel_rfl) (gl14 _) (by kernel_rfl) (by decide +kernel) ?_
  ((with_reducible show wpAny _ _ (spliced (backTo _ (starEach (_ :: _) _))) _ _ _); refine wpAny_items_cons ?_)
  ((with_reducible show wpAny _ _ (eval (.Name _ _) _) _ _ _); refine nL (by assumption) (by assumption) (by kernel_rfl) (by first | with_unfolding_all rfl | with_unfolding_all assumption) ?_ (by decide +kernel))
  ((with_reducible show wpAny _ _ (spliced (backTo _ (starEach (_ :: _) _))) _ _ _); refine wpAny_items_cons ?_)
  (with_reducible refine cI (by assumption) ?_; intro _ _ _)
  ((with_reducible show wpAny _ _ (spliced (backTo _ (starEach [] _))) _ _ _); refine wpAny_items_nil ?_)
  rename_i S
  refine ⟨S.kin, wpAny_call (draw_spec (i := 1) (n := n + 8) hA' S rfl hc (by decide) (by decide) fun s₁ c₁ r₁ t₁ S hc₁ h1 h2 => ?_)⟩
  obtain ⟨m1, rfl⟩ := Int.eq_ofNat_of_zero_le h1
  have S : St w O I ((L, .ns _) :: (H, c₁) :: (R, .ls rv) :: (T, .ls #[.int k t]) :: ms) s₁ := S
  ((with_reducible show wpAny _ _ (spliced (backTo _ (starEach (_ :: _) _))) _ _ _); refine wpAny_items_cons ?_)
  ((with_reducible show wpAny _ _ (eval (.Name _ _) _) _ _ _); refine nL (by assumption) (by assumption) (by kernel_rfl) (by first | with_unfolding_all rfl | with_unfolding_all assumption) ?_ (by decide +kernel))
  ((with_reducible show wpAny _ _ (spliced (backTo _ (starEach (_ :: _) _))) _ _ _); refine wpAny_items_cons ?_)
  ((with_reducible show wpAny _ _ (eval (.Name _ _) _) _ _ _); refine nL (by assumption) (by assumption) (by kernel_rfl) (by first | with_unfolding_all rfl | with_unfolding_all assumption) ?_ (by decide +kernel))
  ((with_reducible show wpAny _ _ (spliced (backTo _ (starEach (_ :: _) _))) _ _ _); refine wpAny_items_cons ?_)
  ((with_reducible show wpAny _ _ (eval (.Name _ _) _) _ _ _); refine nL (by assumption) (by assumption) (by kernel_rfl) (by first | with_unfolding_all rfl | with_unfolding_all assumption) ?_ (by decide +kernel))
  ((with_reducible show wpAny _ _ (spliced (backTo _ (starEach (_ :: _) _))) _ _ _); refine wpAny_items_cons ?_)
  with_reducible refine cB ?_
  ((with_reducible show wpAny _ _ (spliced (backTo _ (starEach [] _))) _ _ _); refine wpAny_items_nil ?_)
  refine ⟨S.kin, wpAny_call (remarks_spec (n := n) (mm := m1) (beside := true) hA' (St.front (l₁ := [_, _, _]) (St.front (l₁ := [_, _, _]) S)) hr (by (clear hk0 hk hrs hz hz2 hz3; (first | lia | omega))) hk0 (by (clear hrs hz hz2 hz3 h1 h2; (first | lia | omega))) (fun _ => hrs) (by (clear hk0 hk hrs hz2 hz3 h1 h2; (first | lia | omega))) (by (clear hk0 hk hrs hz hz3 h1 h2; (first | lia | omega))) fun s₂ J l1 lv1 rv1 t1 lJ hl1 hcs1 hr1 S => ?_)⟩
  have S := St.front (l₁ := [_, _, _]) (St.front (l₁ := [_, _, _]) S)
  ((with_reducible show wpAny _ _ (storeName _ _ _) _ _ _); refine sL (by assumption) (by assumption) (by kernel_rfl) ?_; intro _ _)
  with_reducible refine wpAny_execs_cons ?_
  ((with_reducible show wpAny _ _ (exec (.Assign [.Name _ _] _ _) _) _ _ _); refine wpAny_Assign_Name ?_)
  with_reducible refine wpAny_BinOp ?_
  ((with_reducible show wpAny _ _ (eval (.Name _ _) _) _ _ _); refine nL (by assumption) (by assumption) (by kernel_rfl) (by first | with_unfolding_all rfl | with_unfolding_all assumption) ?_ (by decide +kernel))
  dsimp only
  refine callF (v := .ref 856) (by assumption) V (by kernel_rfl) (gl16 _) (by kernel_rfl) (by decide +kernel) ?_
  ((with_reducible show wpAny _ _ (spliced (backTo _ (starEach (_ :: _) _))) _ _ _); refine wpAny_items_cons ?_)
  refine callF (v := .ref 842) (by assumption) V (by kernel_rfl) (gl14 _) (by kernel_rfl) (by decide +kernel) ?_
  ((with_reducible show wpAny _ _ (spliced (backTo _ (starEach (_ :: _) _))) _ _ _); refine wpAny_items_cons ?_)
  ((with_reducible show wpAny _ _ (eval (.Name _ _) _) _ _ _); refine nL (by assumption) (by assumption) (by kernel_rfl) (by first | with_unfolding_all rfl | with_unfolding_all assumption) ?_ (by decide +kernel))
  ((with_reducible show wpAny _ _ (spliced (backTo _ (starEach (_ :: _) _))) _ _ _); refine wpAny_items_cons ?_)
  (with_reducible refine cI (by assumption) ?_; intro _ _ _)
  ((with_reducible show wpAny _ _ (spliced (backTo _ (starEach [] _))) _ _ _); refine wpAny_items_nil ?_)
  rename_i S
  refine ⟨S.kin, wpAny_call (draw_spec (i := 1) (n := n + 8) hA' S rfl (hc₁.le lJ) (by decide) (by decide) fun s₃ c₂ r₂ t₂ S hc₂ h3 h4 => ?_)⟩
  obtain ⟨m2, rfl⟩ := Int.eq_ofNat_of_zero_le h3
  have S : St w O J ((L, .ns _) :: (H, c₂) :: (R, .ls rv1) :: (T, .ls #[.int (k + m1) t1]) :: ms) s₃ := S
  ((with_reducible show wpAny _ _ (spliced (backTo _ (starEach (_ :: _) _))) _ _ _); refine wpAny_items_cons ?_)
  ((with_reducible show wpAny _ _ (eval (.Name _ _) _) _ _ _); refine nL (by assumption) (by assumption) (by kernel_rfl) (by first | with_unfolding_all rfl | with_unfolding_all assumption) ?_ (by decide +kernel))
  ((with_reducible show wpAny _ _ (spliced (backTo _ (starEach (_ :: _) _))) _ _ _); refine wpAny_items_cons ?_)
  ((with_reducible show wpAny _ _ (eval (.Name _ _) _) _ _ _); refine nL (by assumption) (by assumption) (by kernel_rfl) (by first | with_unfolding_all rfl | with_unfolding_all assumption) ?_ (by decide +kernel))
  ((with_reducible show wpAny _ _ (spliced (backTo _ (starEach (_ :: _) _))) _ _ _); refine wpAny_items_cons ?_)
  ((with_reducible show wpAny _ _ (eval (.Name _ _) _) _ _ _); refine nL (by assumption) (by assumption) (by kernel_rfl) (by first | with_unfolding_all rfl | with_unfolding_all assumption) ?_ (by decide +kernel))
  ((with_reducible show wpAny _ _ (spliced (backTo _ (starEach (_ :: _) _))) _ _ _); refine wpAny_items_cons ?_)
  with_reducible refine cB ?_
  ((with_reducible show wpAny _ _ (spliced (backTo _ (starEach [] _))) _ _ _); refine wpAny_items_nil ?_)
  have b1 := remR_len (b := b) (beside := true) (mm := m1) (rs := rs) (k := k)
  have b2 := remR_tl (b := b) (beside := true) (mm := m1) (rs := rs) (k := k) hk0 (by (clear hrs hz hz2 hz3 h3 h4 b1; (first | lia | omega)))
  have b3 : m1 * (b.length + 20) ≤ 3 * (b.length + 20) := Nat.mul_le_mul_right _ (by (clear hk0 hk hrs hz hz2 hz3 h3 h4 b1 b2; (first | lia | omega)))
  refine ⟨S.kin, wpAny_call (remarks_spec (n := n) (mm := m2) (beside := false) hA' (St.front (l₁ := [_, _, _]) (St.front (l₁ := [_, _, _]) S)) hr1 (by (clear hk0 hk hrs hz hz2 hz3 h1 h2 b1 b2 b3; (first | lia | omega))) (by (clear hrs hz hz2 hz3 h3 h4 b1 b2 b3; (first | lia | omega))) (by (clear hrs hz hz2 hz3 h3 h4 b1 b2 b3; (first | lia | omega))) (fun z => by cases z) (by (clear hk0 hk hrs hz2 hz3 h1 h2 h3 h4 b1; (first | lia | omega))) (by (clear hk0 hk hrs hz hz3 h3 h4 b2 b3; (first | lia | omega))) fun s₄ J2 l2 lv2 rv2 t2 lJ2 hl2 hcs2 hr2 S => ?_)⟩
  have S := St.front (l₁ := [_, _, _]) (St.front (l₁ := [_, _, _]) S)
  have z1 := hcs1.len
  have z2 := hcs2.len
  have z3 := has.len
  rw [remC_len, Array.length_toList] at z1 z2
  rw [Array.length_toList] at z3
  refine addL S (hl1.le lJ2) hl2 (by (clear hk0 hk hrs hz hz2 hz3 b1 b2 b3 z3; (first | lia | omega))) fun s₅ J3 l3 lJ3 hl3 S => ?_
  ((with_reducible show wpAny _ _ (storeName _ _ _) _ _ _); refine sL (by assumption) (by assumption) (by kernel_rfl) ?_; intro _ _)
  with_reducible refine wpAny_execs_cons ?_
  with_reducible refine wpAny_Return_some ?_
  with_reducible refine wpAny_IfExp ?_
  ((with_reducible show wpAny _ _ (isTrue (.Compare _ [_] [_] _) _ _) _ _ _); refine wpAny_isTrue_Compare1 ?_)
  dsimp only
  refine callF (v := .ref 842) (by assumption) V (by kernel_rfl) (gl14 _) (by kernel_rfl) (by decide +kernel) ?_
  ((with_reducible show wpAny _ _ (spliced (backTo _ (starEach (_ :: _) _))) _ _ _); refine wpAny_items_cons ?_)
  ((with_reducible show wpAny _ _ (eval (.Name _ _) _) _ _ _); refine nL (by assumption) (by assumption) (by kernel_rfl) (by first | with_unfolding_all rfl | with_unfolding_all assumption) ?_ (by decide +kernel))
  ((with_reducible show wpAny _ _ (spliced (backTo _ (starEach (_ :: _) _))) _ _ _); refine wpAny_items_cons ?_)
  (with_reducible refine cI (by assumption) ?_; intro _ _ _)
  ((with_reducible show wpAny _ _ (spliced (backTo _ (starEach [] _))) _ _ _); refine wpAny_items_nil ?_)
  rename_i S
  refine ⟨S.kin, wpAny_call (draw_spec (i := 1) (n := n + 8) hA' S rfl ((hc₂.le lJ2).le lJ3) (by decide) (by decide) fun s₆ c₃ r₃ t₃ S hc₃ h5 h6 => ?_)⟩
  have S : St w O J3 ((L, .ns _) :: (H, c₃) :: (R, .ls rv2) :: (T, .ls #[.int (k + m1 + m2) t2]) :: ms) s₆ := S
  (with_reducible refine cI (by assumption) ?_; intro _ _ _)
  with_reducible refine eq_int ?_
  with_reducible refine wpAny_truthy_bool ?_
  have lJ13 := (lJ.trans lJ2).trans lJ3
  have hl3' : (lv1 ++ lv2).toList = lv1.toList ++ lv2.toList := Array.toList_append
  have hcs3 : IComs J3 (lv1 ++ lv2).toList (remC b true m1 rs k ++ remC b false m2 (remR b true m1 rs k) (k + m1)) := by
    rw [hl3']; exact ((hcs1.le lJ2).le lJ3).app (hcs2.le lJ3)
  have z4 : (lv1 ++ lv2).size = lv1.size + lv2.size := Array.size_append
  by_cases hz : r₃ == 0
  · refine iteT hz ?_
    with_reducible refine wpAny_BinOp ?_
    ((with_reducible show wpAny _ _ (eval (.Name _ _) _) _ _ _); refine nL (by assumption) (by assumption) (by kernel_rfl) (by first | with_unfolding_all rfl | with_unfolding_all assumption) ?_ (by decide +kernel))
    ((with_reducible show wpAny _ _ (eval (.Name _ _) _) _ _ _); refine nL (by assumption) (by assumption) (by kernel_rfl) (by first | with_unfolding_all rfl | with_unfolding_all assumption) ?_ (by decide +kernel))
    rename_i S
    refine addL S (ha.le lJ13) hl3 (by (clear hk0 hk hrs hz2 b1 b2 b3 h5 h6; (first | lia | omega))) fun s₇ J4 l4 lJ4 hl4 S => ?_
    refine q s₇ J4 l4 _ rv2 t2 c₃ m1 m2 true (lJ13.trans lJ4) (hc₃.le lJ4) (by (clear hk0 hk hrs hz2 hz3 h3 h4 b1 b2 b3 z2 z3 h5 h6; (first | lia | omega))) (by (clear hk0 hk hrs hz2 hz3 h1 h2 b1 b2 b3 z1 z3 h5 h6 z4; (first | lia | omega))) hl4 ?_ hr2 S.tail
    rw [Array.toList_append]
    exact ((has.le lJ13).app hcs3).le lJ4
  · refine iteF (by simpa using hz) ?_
    with_reducible refine wpAny_BinOp ?_
    ((with_reducible show wpAny _ _ (eval (.Name _ _) _) _ _ _); refine nL (by assumption) (by assumption) (by kernel_rfl) (by first | with_unfolding_all rfl | with_unfolding_all assumption) ?_ (by decide +kernel))
    ((with_reducible show wpAny _ _ (eval (.Name _ _) _) _ _ _); refine nL (by assumption) (by assumption) (by kernel_rfl) (by first | with_unfolding_all rfl | with_unfolding_all assumption) ?_ (by decide +kernel))
    rename_i S
    refine addL S hl3 (ha.le lJ13) (by (clear hk0 hk hrs hz2 b1 b2 b3 h5 h6 hz; (first | lia | omega))) fun s₇ J4 l4 lJ4 hl4 S => ?_
    refine q s₇ J4 l4 _ rv2 t2 c₃ m1 m2 false (lJ13.trans lJ4) (hc₃.le lJ4) (by (clear hk0 hk hrs hz2 hz3 h3 h4 b1 b2 b3 z2 z3 h5 h6 hz; (first | lia | omega))) (by (clear hk0 hk hrs hz2 hz3 h1 h2 b1 b2 b3 z1 z3 h5 h6 z4 hz; (first | lia | omega))) hl4 ?_ hr2 S.tail
    rw [Array.toList_append]
    exact (hcs3.app (has.le lJ13)).le lJ4
end

end
section
theorem lk375 (P : Params) : (K0 P).lookup 375 = some (ko375 P) := by kernel_rfl
section
variable {w : World} {O : OsState} {A : Around} {E : Value → Shared → Prop} {s : Shared} {I : Im} {ms : Ms} {L : Addr} {env : Env} {Q : Value → Shared → Prop}
theorem codeHd375 (S : St w O I ms s) : CodeHd s.heap 375 373 :=
  ⟨ko375 w.params, _, _, _, _, _, _, _, _, S.kin _ _ (lk375 _), rfl, rfl, rfl, rfl, rfl, rfl, rfl, rfl, by decide⟩
theorem St.same {i : Nat} {a : Addr} {c : Cel} {s' : Shared} (S : St w O I ms s) (e : ms[i]? = some (a, c)) (k : ∀ b, b ≠ a → ∀ o, s.heap.get? b = some o → s'.heap.get? b = some o) (h : c.at s'.heap a) (g : GO O s') : St w O I ms s' := by
  have := S.set e k h g
  have z : ms.set i (a, c) = ms := by
    refine List.ext_getElem? fun j => ?_
    rw [List.getElem?_set]
    split
    · rename_i q; subst q; split
      · exact e.symm
      · rename_i q; rw [List.getElem?_eq_none (Nat.not_lt.mp q)]
    · rfl
  rwa [z] at this
theorem gxCode {i : Nat} {pos : Pos} {q : Str} {scope : Scope} {Q : Value → Shared → Prop} (S : St w O I ms s) (hi : ms[i]? = some (373, .tb)) (hc : env.code = .ref 375)
    (h : ∀ s' code, St w O I ms s' → s.heap.objs.size ≤ s'.heap.objs.size → (∀ b o, b ≠ 373 → s.heap.get? b = some o → s'.heap.get? b = some o) → s'.gens = s.gens → s'.drawn = s.drawn → Q code s') : wpAny (model PG w) A (genexprCode env pos q scope) Q E s := by
  obtain ⟨ps, hP, ht⟩ := S.get hi
  have C := codeHd375 S
  cases hnf : codeAmong pos ps.toList with
  | some cv => exact wpAny_genexprCode_hit hc (C.code hP ht) hnf (h s cv S (Nat.le_refl _) (fun _ _ _ e => e) rfl rfl)
  | none =>
    refine wpAny_genexprCodeX hc (C.code hP ht) (C.tab hP) hnf fun c' h' tk hx hge hlt hcode hrec htab _ => ?_
    refine h _ _ (S.same hi (fun b hb o e => hx b o hb e) ⟨_, htab.2, ?_⟩ S.gens) (Nat.le_trans hge (Nat.le_of_lt hlt)) hx rfl rfl
    obtain ⟨o, vs, file, tf, flags, tg, inF, text, tt, op, r1, r2, r3, r4, r5, r6, r7, r8, r9, r10, _⟩ := hcode
    exact r10
theorem gxBuiltins {Q : Addr → Shared → Prop} (S : St w O I ms s) (V : EnvOk env L) (h : Q builtinsNs s) : wpAny (model PG w) A (builtinsFor env.globals env.builtins) Q E s := by
  obtain ⟨o, es, ep, bm, ob, e, r1, r2, r3, r4, e2, r5, r6, r7⟩ := S.base.m
  have G : s.heap.Ns env.globals (nsFind es) := V.glob.symm ▸ ⟨o, es, ep, S.imm _ _ e, r1, r2, fun _ => rfl⟩
  exact wpAny_builtinsFor G r3 r4 (S.imm _ _ e2) r5 r6 r7 h
theorem St.extB {N : Nat} {s' : Shared} (S : St w O I ms s) (h1 : ∀ a o, I a = some o → a < N) (h2 : ∀ p ∈ ms, p.1 < N) (k : ∀ b o, b < N → s.heap.get? b = some o → s'.heap.get? b = some o) (g : GO O s') : St w O I ms s' :=
  ⟨S.base, fun a o e => k a o (h1 a o e) (S.imm a o e), fun p h => (S.mu p h).keep fun o e => k _ _ (h2 p h) e, S.off, S.nd, g⟩
theorem joinGx {n i : Nat} {sep : Str} {ts : Tok} {elt iter : Expr} {x : Str} {px gp : Pos} {scope : Scope} {cl : List (Str × Addr)} {items : Array Value} {texts : List Str} (hA : Ok A n) (V : EnvOk env L) (hcode : env.code = .ref 375)
    (hco : scope.isCoroutine = false) (hclos : closureFor scope env = pure cl) (hcell : scope.names.all (fun y => !isCell y.2) = true) (h0 : scope.names.lookup (".0" : Str) = some NameKind.local) (hx : scope.names.lookup x = some .local) (hkind : scope.kind = .function)
    (hsz : items.size = texts.length) (hz : items.size ≤ 100000) (hj : JoinOk sep texts = true)
    (hiter : wpAny (model PG w) A (eval iter env) (fun v s₁ => ∃ l, v = .ref l ∧ s₁.heap.IsList l items ∧ l ≠ 373 ∧ St w O I ms s₁ ∧ ms[i]? = some (373, .tb) ∧ (∀ b ∈ ms, b.1 < s₁.heap.objs.size) ∧
      (∀ (A' : Around) (E' : Value → Shared → Prop) (i : Nat) (v : Value) (s₂ : Shared) (m₂ : Str → Option Value) (C : Addr) (code : Value) (bi : Addr), A'.handled = none → items[i]? = some v → s₂.heap.Ns C m₂ → m₂ x = some v → (∀ b o, b ≠ 373 → s₁.heap.get? b = some o → s₂.heap.get? b = some o) →
        wpAny (model PG w) A' (eval elt (genEnv scope cl C code bi env)) (fun y s₃ => (∃ t u, texts[i]? = some u ∧ y = .str u t) ∧ Keeps s₂ s₃) E' s₂)) E s)
    (hs : ∀ x, genFold iter env x = pure x)
    (q : ∀ s' t', St w O I ms s' → Q (.str (Txt.join sep texts) t') s') :
    wpAny (model PG w) A (eval (.GeneratorExp elt [⟨.Name x px, iter, [], 0⟩] scope gp) env) (fun g s₁ => wpAny (model PG w) A (call (.builtin "str.join") [.str sep ts, g]) Q E s₁) E s := by
  have hcell : ∀ y ∈ scope.names, y.2 ≠ .cell := fun y hy e => by have := List.all_eq_true.mp hcell y hy; rw [e] at this; cases this
  refine wpAny_GeneratorExp_walksQ hA.h hco hclos hcell h0 hx hkind hA.room (wpAny_mono hiter (fun v s₁ h₁ => ?_) fun _ _ y => y) hs
  obtain ⟨l, rfl, hl, hl3, S, hi, hlt, helt⟩ := h₁
  refine wpAny_pyIter_list hl ?_
  have S2 : St w O I ms { s₁ with heap := s₁.heap.push { cls := .type "list_iterator", data := .fields #[.ref l, .int 0 0] } } := S.ext (fun b o e => Heap.get?_push_of_some _ e) S.gens
  have hll : l < s₁.heap.objs.size := by obtain ⟨_, e, _⟩ := hl; exact Heap.lt_size e
  refine ⟨S2.nolimit, gxCode S2 hi hcode fun s₄ code S4 hs4 k4 g4 d4 => gxBuiltins S4 V ?_⟩
  have hs4' : s₁.heap.objs.size + 1 ≤ s₄.heap.objs.size := by rw [← Heap.size_push]; exact hs4
  have hN3 : s₁.heap.objs.size ≠ 373 := Nat.ne_of_gt (hlt (373, .tb) (List.mem_of_getElem? hi))
  refine ⟨s₁.heap.objs.size, [s₁.heap.objs.size, l], [s₁.heap.objs.size], items.size, _, _, fun _ => true, fun i y => ∃ t u, texts[i]? = some u ∧ y = .str u t, rfl, fun A' hA' => Walks.list hA' _ _ (Nat.ne_of_lt hll) items, ⟨?_, ?_⟩, ?_, S4.nolimit, ?_, ?_, ?_⟩
  · exact ⟨_, k4 _ _ hN3 (Heap.get?_push_size _ rfl), rfl, rfl⟩
  · obtain ⟨ol, e, r⟩ := hl; exact ⟨ol, k4 _ _ hl3 (Heap.get?_push_of_some _ e), r⟩
  · intro b hb
    rcases List.mem_cons.mp hb with rfl | hb
    · exact hs4'
    · rcases List.mem_cons.mp hb with rfl | hb
      · exact Nat.lt_of_lt_of_le hll (Nat.le_of_succ_le hs4')
      · cases hb
  · intro hm
    rcases List.mem_cons.mp hm with e | hm
    · have : cStatics < s₁.heap.objs.size := by obtain ⟨o, es, ep, e, _⟩ := S.base.l; exact Heap.lt_size (S.imm _ _ e)
      exact absurd this (by rw [e]; exact Nat.lt_irrefl _)
    · cases hm
  · intro href hk
    refine ⟨fun A' E' i v s₂ m₂ hA' hP hn hm hkp => ?_, fun A' E' i v s₂ m₂ hA' hP _ hn hm hkp => ?_⟩
    · rw [List.forIn_nil]; exact wpAny_pure ⟨rfl, s₂.heap, s₂.toks, rfl, fun _ _ e => e⟩
    · refine helt A' E' i v s₂ m₂ _ _ _ hA' hP hn hm fun b o hb e => ?_
      have hb1 : b < s₁.heap.objs.size := Heap.lt_size e
      exact hkp b (List.mem_range.mpr (Nat.lt_of_lt_of_le hb1 (Nat.le_of_succ_le hs4'))) (fun z => by rcases List.mem_cons.mp z with z | z; exact absurd hb1 (by rw [z]; exact Nat.lt_irrefl _); cases z) o (hk b o (k4 b o hb (Heap.get?_push_of_some _ e)))
  · intro a h₅ tk gs hbare hlt5 hsz5 hk5 W G
    have hpass : passing (fun _ => true) items.size 0 = List.range items.size := by unfold passing; rw [List.drop_zero]; simp
    rw [hpass] at W
    refine SC.joinGen W.in4_2 (fun i s st => ?_) G (fun b hb => ?_) (.head _) (fun i v hv => ?_) (fun s' lt hm hacc => ?_) (by rw [List.length_range, sizeLine_eq]; (clear hl3 hll hs4 hs4' hN3 hlt5 hsz5; (first | lia | omega)))
    · obtain ⟨⟨o, nm, qn, ho, hc, _⟩, _⟩ := st; exact ⟨o, ho, hc⟩
    · show b < h₅.objs.size
      rw [hsz5]
      rcases List.mem_cons.mp hb with rfl | hb
      · exact Nat.lt_succ_self _
      · rcases List.mem_cons.mp hb with rfl | hb
        · exact Nat.lt_succ_of_lt hlt5
        · exact Nat.lt_succ_of_lt (Nat.lt_trans (List.mem_range.mp hb) hlt5)
    · obtain ⟨_, _, t, u, _, e⟩ := hv; exact ⟨u, t, e⟩
    · have htx : lt.map (·.1) = texts := by
        obtain ⟨z1, z2⟩ := hacc
        have z3 : lt.length = items.size := by simpa [strValues] using z1
        refine List.ext_getElem? fun j => ?_
        rcases Nat.lt_or_ge j lt.length with hj | hj
        · have e1 : (strValues lt).toArray[j]? = some (.str lt[j].1 lt[j].2) := by simp [strValues, hj]
          obtain ⟨i', hi', t, u, hu, e⟩ := z2 j _ e1
          rw [List.getElem?_range (by (clear hz hl3 hll hs4 hs4' hN3 hlt5 hsz5 z1; (first | lia | omega)))] at hi'
          cases hi'
          rw [hu, List.getElem?_map, List.getElem?_eq_getElem hj]
          cases e; rfl
        · rw [List.getElem?_eq_none (by simpa using hj), List.getElem?_eq_none (by (clear hz hl3 hll hs4 hs4' hN3 hlt5 hsz5 z1; (first | lia | omega)))]
      rw [htx]
      refine ⟨hj, fun t' k => q _ t' ?_⟩
      refine S4.extB (N := s₁.heap.objs.size) (fun a o e => Heap.lt_size (S.imm a o e)) hlt (fun b o hb e => hm.heap b o (fun z => ?_) (hk5 b o e)) ⟨?_, hm.os.trans S4.gens.2⟩
      · rcases List.mem_cons.mp z with rfl | z
        · exact absurd hb (Nat.not_lt.mpr (Nat.le_of_succ_le hs4'))
        · rcases List.mem_cons.mp z with rfl | z
          · exact Nat.lt_irrefl _ hb
          · cases z
      · refine AllBare.moved (a := s₄.gens.push gs) (fun y hy => ?_) hm.gens
        rcases Array.mem_push.mp hy with hy | rfl
        · exact S4.gens.1 y hy
        · exact hbare
end

end
section
section
variable {w : World} {O : OsState} {A : Around} {E : Value → Shared → Prop} {s : Shared} {I : Im} {ms : Ms} {L : Addr} {env : Env} {Q : Value → Shared → Prop}
theorem compOk {scope : Scope} {cl : List (Str × Addr)} {C : Addr} (V : EnvOk env L) (hk : scope.kind = .function) : EnvOk (compEnvC scope cl C env) C := ⟨rfl, V.glob, V.blt, hk⟩
theorem lappend {l : Addr} {items : Array Value} {n : Nat} {v : Value} (hl : IsL s.heap l items n) (hz : items.size ≤ 1000000) (h : ∀ n', Q .none { s with heap := s.heap.update l (Obj.mapSeq fun xs => xs.push v), toks := n' }) :
    wpAny (model PG w) A (call (.builtin "list.append") [.ref l, v]) Q E s := by
  have hz : items.size ≤ sizeLine := by rw [sizeLine_eq]; (first | lia | omega)
  have hT : s.TypeIs (.ref l) "list" := ⟨_, hl, rfl⟩
  exact call_meets F.slot_list_append hT F.entry_list_append (F.args_list_append_2 _ _) (list_append l items n v hz) ⟨hl, h s.toks⟩
theorem listCompU {use : Option (Value → Sem Unit)} {cpos : Pos} {n : Nat} {elt iter : Expr} {x : Str} {px pos : Pos} {ifs : List Expr} {scope : Scope} {cl : List (Str × Addr)} (hA : Ok A n) (V : EnvOk env L)
    (hclos : closureFor scope env = pure cl) (hcell : scope.names.all (fun y => !isCell y.2) = true) (hkind : scope.kind = .function) (hnames : ∀ y ∈ scope.names, y.2 = .local → scope.names.lookup y.1 = some .local) (hx : scope.names.lookup x = some .local)
    (hiter : wpAny (model PG w) A (eval iter env) (fun v s₁ => ∃ l I ms, ∃ items : Array Value, ∃ Inv : Nat → Im → Ms → Array Value → Prop, v = .ref l ∧ St w O I ms s₁ ∧ s₁.heap.IsList l items ∧ Inv 0 I ms #[] ∧
      (∀ j I ms acc p s, Inv j I ms acc → St w O I (p ++ ms) s → s.heap.IsList l items) ∧ (∀ j I ms acc, Inv j I ms acc → acc.size ≤ j) ∧ items.size ≤ 100000 ∧
      (∀ (j : Nat) (v : Value) I ms acc C D it (m : Str → Option Value) s E', items[j]? = some v → Inv j I ms acc → m x = some v → St w O I ((C, .ns m) :: (D, .ls acc) :: (it, .it l (j + 1)) :: ms) s →
        wpAny (model PG w) A (forIn ifs true fun c r => if r = true then do let ok ← isTrue c (compEnvC scope cl C env) (eval c (compEnvC scope cl C env)); pure (ForInStep.yield ok) else pure (ForInStep.yield r)) (fun ok s₃ => (if ok = true then wpAny (model PG w) A (eval elt (compEnvC scope cl C env)) (fun y s₄ => ∃ I' ms', St w O I' ((C, .ns m) :: (D, .ls acc) :: (it, .it l (j + 1)) :: ms') s₄ ∧ Inv (j + 1) I' ms' (acc.push y)) E' s₃ else ∃ I' ms', St w O I' ((C, .ns m) :: (D, .ls acc) :: (it, .it l (j + 1)) :: ms') s₃ ∧ Inv (j + 1) I' ms' acc)) E' s) ∧
      (∀ I ms acc C D m s, Inv items.size I ms acc → St w O I ((C, .ns m) :: (D, .ls acc) :: ms) s → compPost (model PG w) A E use Q (.ref D) C (.ok .next) s)) E s)
    (hs : ∀ x, foldedSetIterable iter env x = pure x := by intro _; rfl) :
    wpAny (model PG w) A (comprehension (.ListComp elt [⟨.Name x px, iter, ifs, 0⟩] scope pos) scope env cpos (newList []) false (eval iter env) use) Q E s := by
  have hcell : ∀ y ∈ scope.names, y.2 ≠ .cell := fun y hy e => by have := List.all_eq_true.mp hcell y hy; rw [e] at this; cases this
  refine wpAny_comprehension_free (use := use) rfl hs hclos hkind hnames (wpAny_mono hiter (fun v s₁ h₁ => ?_) fun _ _ y => y)
  obtain ⟨l, I, ms, items, Inv, rfl, S, hl, h0, hsrc, hsize, hz, turn, fin⟩ := h₁
  have hll : l < s₁.heap.objs.size := by obtain ⟨_, e, _⟩ := hl; exact Heap.lt_size e
  refine wpAny_pyIter_list hl ?_
  have S1 := S.push (.it l 0) (x := { cls := .type "list_iterator", data := .fields #[.ref l, .int 0 0] }) ⟨_, Heap.get?_push_size _ rfl, rfl, rfl⟩
  refine wpAny_newObj_type ?_
  have S2 := S1.push (.ls #[]) (x := { cls := .type "list", dict := none, data := .seq ([] : List Value).toArray }) ⟨0, Heap.get?_push_size _ rfl⟩
  refine wpAny_newFunctionEnv hcell (by intro y hy; simp at hy) (fun h₁ hns₁ hsb₁ => ?_) hkind
  have main : ∀ s₃ C D it m, St w O I ((C, .ns m) :: (D, .ls #[]) :: (it, .it l 0) :: ms) s₃ → codeAny (model PG w) A (.compStart (.ListComp elt [⟨.Name x px, iter, ifs, 0⟩] scope pos) 0 (.ref it) (.ref D) (compEnvC scope cl C env)) (compPost (model PG w) A E use Q (.ref D) C) s₃ := by
    intro s₃ C D it m S3
    have loop : codeAny (model PG w) A (.compLoop (.ListComp elt [⟨.Name x px, iter, ifs, 0⟩] scope pos) 0 (.ref it) (.ref D) (compEnvC scope cl C env)) (compPost (model PG w) A E use Q (.ref D) C) s₃ := by
      refine codeAny_compLoop_tests (fun k s => ∃ j I ms acc m, k = items.size - j ∧ j ≤ items.size ∧ Inv j I ms acc ∧ St w O I ((C, .ns m) :: (D, .ls acc) :: (it, .it l j) :: ms) s) ?_ items.size ⟨0, I, ms, #[], m, rfl, Nat.zero_le _, h0, S3⟩
      rintro k s₄ ⟨j, I, ms, acc, m, rfl, hj, hi, S⟩
      have hl4 : s₄.heap.IsList l items := hsrc j I ms acc [(C, .ns m), (D, .ls acc), (it, .it l j)] s₄ hi S
      rcases Nat.lt_or_ge j items.size with hlt | hge
      · refine wpAny_pyNext_list_item (S.get (i := 2) rfl) hl4 (x := items[j]) (by simp [hlt]) fun h' hit hs => ?_
        dsimp only
        have S5 : St w O I ((C, .ns m) :: (D, .ls acc) :: (it, .it l (j + 1)) :: ms) { s₄ with heap := h' } := S.set (i := 2) rfl (fun b hb o e => (hs.2 b hb).trans e) hit S.gens
        refine wpAny_assign_Name (sL S5 (compOk V hkind) (lookup_relabel_local hx) fun s₆ S6 => ?_)
        refine wpAny_mono (turn j items[j] I ms acc C D it _ s₆ _ (by simp [hlt]) hi (if_pos rfl) S6) (fun ok s₇ h₇ => ?_) fun _ _ y => y
        cases ok with
        | true =>
          refine wpAny_mono h₇ (fun y s₈ h₈ => ?_) fun _ _ y => y
          obtain ⟨I', ms', S8, hi8⟩ := h₈
          obtain ⟨na, ea⟩ := S8.get (i := 1) rfl
          have hsz := hsize _ _ _ _ hi
          refine lappend ea (by (clear hll hj; (first | lia | omega))) fun n' => ⟨items.size - (j + 1), by (clear hz hll hj hsz; (first | lia | omega)), j + 1, I', ms', acc.push y, upd m x items[j], rfl, hlt, hi8, ?_⟩
          exact S8.set (i := 1) rfl (fun b hb o z => (Heap.get?_update_ne _ _ _ _ hb).trans z) ⟨_, ea.update _⟩ S8.gens
        | false =>
          obtain ⟨I', ms', S8, hi8⟩ := h₇
          exact ⟨items.size - (j + 1), by (clear hz hll hj; (first | lia | omega)), j + 1, I', ms', acc, _, rfl, hlt, hi8, S8⟩
      · have : j = items.size := by (clear hz hll; (first | lia | omega))
        subst this
        refine wpAny_pyNext_list_end hA.h (S.get (i := 2) rfl) hl4 (by simp) fun h' hs => ?_
        dsimp only
        have S5 : St w O I ((C, .ns m) :: (D, .ls acc) :: ms) { s₄ with heap := h' } := St.drop0 (St.front (l₁ := [_, _]) S) (fun b o hb e => hs b o hb e) S.gens
        exact fin I ms acc _ _ m _ hi S5
    exact codeAny_compStart_list loop (wpAny_pyIter_listiter (S3.get (i := 2) rfl) loop)
  refine main _ _ _ _ (fun y => List.lookup y ([] : List (Str × Value)).reverse) ?_
  exact S2.new (Nat.le_refl _) (fun b o e => hsb₁.extBut b o (Nat.ne_of_lt (Heap.lt_size e)) (Heap.get?_push_of_some _ e)) hns₁ S2.gens
theorem listComp {n : Nat} {elt iter : Expr} {x : Str} {px pos : Pos} {ifs : List Expr} {scope : Scope} {cl : List (Str × Addr)} (hA : Ok A n) (V : EnvOk env L)
    (hclos : closureFor scope env = pure cl) (hcell : scope.names.all (fun y => !isCell y.2) = true) (hkind : scope.kind = .function) (hnames : ∀ y ∈ scope.names, y.2 = .local → scope.names.lookup y.1 = some .local) (hx : scope.names.lookup x = some .local)
    (hiter : wpAny (model PG w) A (eval iter env) (fun v s₁ => ∃ l I ms, ∃ items : Array Value, ∃ Inv : Nat → Im → Ms → Array Value → Prop, v = .ref l ∧ St w O I ms s₁ ∧ s₁.heap.IsList l items ∧ Inv 0 I ms #[] ∧
      (∀ j I ms acc p s, Inv j I ms acc → St w O I (p ++ ms) s → s.heap.IsList l items) ∧ (∀ j I ms acc, Inv j I ms acc → acc.size ≤ j) ∧ items.size ≤ 100000 ∧
      (∀ (j : Nat) (v : Value) I ms acc C D it (m : Str → Option Value) s E', items[j]? = some v → Inv j I ms acc → m x = some v → St w O I ((C, .ns m) :: (D, .ls acc) :: (it, .it l (j + 1)) :: ms) s →
        wpAny (model PG w) A (forIn ifs true fun c r => if r = true then do let ok ← isTrue c (compEnvC scope cl C env) (eval c (compEnvC scope cl C env)); pure (ForInStep.yield ok) else pure (ForInStep.yield r)) (fun ok s₃ => (if ok = true then wpAny (model PG w) A (eval elt (compEnvC scope cl C env)) (fun y s₄ => ∃ I' ms', St w O I' ((C, .ns m) :: (D, .ls acc) :: (it, .it l (j + 1)) :: ms') s₄ ∧ Inv (j + 1) I' ms' (acc.push y)) E' s₃ else ∃ I' ms', St w O I' ((C, .ns m) :: (D, .ls acc) :: (it, .it l (j + 1)) :: ms') s₃ ∧ Inv (j + 1) I' ms' acc)) E' s) ∧
      (∀ I ms acc D s, Inv items.size I ms acc → St w O I ((D, .ls acc) :: ms) s → Q (.ref D) s)) E s)
    (hs : ∀ x, foldedSetIterable iter env x = pure x := by intro _; rfl) :
    wpAny (model PG w) A (eval (.ListComp elt [⟨.Name x px, iter, ifs, 0⟩] scope pos) env) Q E s := by
  rw [eval_ListComp]
  refine listCompU (O := O) hA V hclos hcell hkind hnames hx (wpAny_mono hiter (fun v s₁ h₁ => ?_) fun _ _ y => y) hs
  obtain ⟨l, I, ms, items, Inv, e, S, hl, h0, hsrc, hsize, hz, turn, fin⟩ := h₁
  refine ⟨l, I, ms, items, Inv, e, S, hl, h0, hsrc, hsize, hz, turn, fun I ms acc C D m s hi S => ⟨m, S.get (i := 0) rfl, fun h'' hs'' => fin I ms acc D _ hi ?_⟩⟩
  exact St.drop0 S (fun b o hb e => (hs''.2 b hb).trans e) S.gens
theorem asgComp {n : Nat} {elt iter : Expr} {x y : Str} {px py pos spos : Pos} {ifs : List Expr} {scope : Scope} {cl : List (Str × Addr)} {Q : Flow → Shared → Prop} (hA : Ok A n) (V : EnvOk env L) (hy : env.kindOf y = some .local)
    (hsw : swapsWith (.ListComp elt [⟨.Name x px, iter, ifs, 0⟩] scope pos) (some (.Name y py)) spos.line env = pure true)
    (hclos : closureFor scope env = pure cl) (hcell : scope.names.all (fun y => !isCell y.2) = true) (hkind : scope.kind = .function) (hnames : ∀ y ∈ scope.names, y.2 = .local → scope.names.lookup y.1 = some .local) (hx : scope.names.lookup x = some .local)
    (hiter : wpAny (model PG w) A (eval iter env) (fun v s₁ => ∃ l I ms, ∃ items : Array Value, ∃ Inv : Nat → Im → Ms → Array Value → Prop, v = .ref l ∧ St w O I ms s₁ ∧ s₁.heap.IsList l items ∧ Inv 0 I ms #[] ∧
      (∀ j I ms acc p s, Inv j I ms acc → St w O I (p ++ ms) s → s.heap.IsList l items) ∧ (∀ j I ms acc, Inv j I ms acc → acc.size ≤ j) ∧ items.size ≤ 100000 ∧
      (∀ (j : Nat) (v : Value) I ms acc C D it (m : Str → Option Value) s E', items[j]? = some v → Inv j I ms acc → m x = some v → St w O I ((C, .ns m) :: (D, .ls acc) :: (it, .it l (j + 1)) :: ms) s →
        wpAny (model PG w) A (forIn ifs true fun c r => if r = true then do let ok ← isTrue c (compEnvC scope cl C env) (eval c (compEnvC scope cl C env)); pure (ForInStep.yield ok) else pure (ForInStep.yield r)) (fun ok s₃ => (if ok = true then wpAny (model PG w) A (eval elt (compEnvC scope cl C env)) (fun y s₄ => ∃ I' ms', St w O I' ((C, .ns m) :: (D, .ls acc) :: (it, .it l (j + 1)) :: ms') s₄ ∧ Inv (j + 1) I' ms' (acc.push y)) E' s₃ else ∃ I' ms', St w O I' ((C, .ns m) :: (D, .ls acc) :: (it, .it l (j + 1)) :: ms') s₃ ∧ Inv (j + 1) I' ms' acc)) E' s) ∧
      (∀ I ms acc s, Inv items.size I ms acc → ∀ D C m, St w O I ((C, .ns m) :: (D, .ls acc) :: ms) s → ∃ m' ms', ms = (L, .ns m') :: ms' ∧ ∀ s', St w O I ((L, .ns (upd m' y (.ref D))) :: (D, .ls acc) :: ms') s' → Q .next s')) E s)
    (hs : ∀ x, foldedSetIterable iter env x = pure x := by intro _; rfl) :
    wpAny (model PG w) A (exec (.Assign [.Name y py] (.ListComp elt [⟨.Name x px, iter, ifs, 0⟩] scope pos) spos) env) Q E s := by
  rw [exec_Assign_Name_used _ _ _ _ hsw]
  refine wpAny_bind (wpAny_standAt (wpAny_bind ?_))
  show wpAny _ A (do let _ ← comprehension (.ListComp elt [⟨.Name x px, iter, ifs, 0⟩] scope pos) scope env _ (newList []) false (eval iter env) (some (assign (.Name y py) env))) _ _ s
  refine wpAny_bind (wpAny_mono (listCompU (O := O) (Q := fun _ s' => Q .next s') hA V hclos hcell hkind hnames hx (wpAny_mono hiter (fun v s₁ h₁ => ?_) fun _ _ y => y) hs) (fun _ s' hq => wpAny_pure (wpAny_pure hq)) fun _ _ e => e)
  obtain ⟨l, I, ms, items, Inv, e, S, hl, h0, hsrc, hsize, hz, turn, fin⟩ := h₁
  refine ⟨l, I, ms, items, Inv, e, S, hl, h0, hsrc, hsize, hz, turn, fun I ms acc C D m s hi S => ?_⟩
  obtain ⟨m', ms', rfl, q⟩ := fin I ms acc s hi D C m S
  show wpAny _ A (assign (.Name y py) env (.ref D)) _ _ _
  refine asgN (St.front (l₁ := [_, _]) S) V hy fun s₂ S => ?_
  have S := S.swap
  exact ⟨m, S.get (i := 0) rfl, fun h'' hs'' => q _ (St.drop0 S (fun b o hb e => (hs''.2 b hb).trans e) S.gens)⟩
end

end
section
theorem St.news {w : World} {O : OsState} {I : Im} {ms cs : Ms} {s s' : Shared} (S : St w O I ms s) (h : ∀ p ∈ cs, s.heap.objs.size ≤ p.1 ∧ p.2.at s'.heap p.1) (nd : (cs.map (·.1)).Nodup) (k : ∀ b o, s.heap.get? b = some o → s'.heap.get? b = some o) (g : GO O s') : St w O I (cs ++ ms) s' := by
  refine ⟨S.base, fun a o e => k _ _ (S.imm a o e), fun p hp => ?_, fun p hp => ?_, ?_, g⟩
  · rcases List.mem_append.mp hp with hp | hp
    · exact (h p hp).2
    · exact (S.mu p hp).keep fun o e => k _ _ e
  · rcases List.mem_append.mp hp with hp | hp
    · cases q : I p.1 with
      | none => rfl
      | some o => exact absurd (Heap.lt_size (S.imm _ _ q)) (Nat.not_lt.mpr (h p hp).1)
    · exact S.off p hp
  · rw [List.map_append]
    refine List.nodup_append.mpr ⟨nd, S.nd, fun a ha b hb e => ?_⟩
    obtain ⟨p, hp, rfl⟩ := List.mem_map.mp ha
    obtain ⟨q, hq, rfl⟩ := List.mem_map.mp hb
    have := S.lt hq
    exact absurd this (by rw [← e]; exact Nat.not_lt.mpr (h p hp).1)
theorem St.mid {w : World} {O : OsState} {I : Im} {s : Shared} (a b : Ms) {c : Ms} (S : St w O I (a ++ (b ++ c)) s) : St w O I (b ++ (a ++ c)) s := S.perm (by
  rw [← List.append_assoc, ← List.append_assoc]; exact List.Perm.append_right _ List.perm_append_comm)
noncomputable def okFnC (K : Frag) (fd : FuncData) (xs : List Str) (cs : List Str) : Bool :=
  xs.all (fun x => isLoc (fd.scope.names.lookup x) || ((match fd.scope.names.lookup x with | some .cell => true | _ => false) && cs.contains x)) && (
  codeIn K fd.code fd.qualname && fd.scope.isCoroutine == false && fd.scope.isGenerator == false && (match fd.scope.kind with | .function => true | _ => false) && fd.globals == mainGlobals && fd.builtins == builtinsNs && fd.closure.isEmpty)
section
variable {w : World} {O : OsState} {A : Around} {E : Value → Shared → Prop} {s : Shared} {I : Im} {ms : Ms} {L x C dx : Addr} {env : Env} {m : Str → Option Value} {name : Str} {v : Value}
theorem enterC {n : Nat} {f : Addr} {o : Obj} {body : List Stmt} {pos : List Value} {binds : List (Str × Value)} {Q : Value → Shared → Prop} (cs : Addr → List (Str × Addr)) (xs : List Str)
    (S : St w O I ms s) (hA : Ok A (n + 1)) (ho : (K0 w.params).lookup f = some o) (hd : o.data = .func (fdOf o)) (hb : (fdOf o).body = .stmts body) (hok : okFnC (K0 w.params) (fdOf o) (binds.map (·.1)) xs = true)
    (hbind : bindArgs (fdOf o) ⟨pos, []⟩ = pure binds) (hcs : ∀ L, cellsFrom (L + 1) (fdOf o).scope.names [] = cs L) (hxs : ∀ L, (cs L).map (·.1) = xs) (hnd : xs.Nodup)
    (cm : Str → Option Value) (m : Str → Option Value) (hm : bindL (fun y => (fdOf o).scope.names.lookup y) binds (fun _ => none) = m) (hcm : bindC (fun y => (fdOf o).scope.names.lookup y) binds (fun _ => none) = cm)
    (h : ∀ A' L s' E', Ok A' n → EnvOk (callEnvC (fdOf o) L f) L → (callEnvC (fdOf o) L f).cells = cs L → St w O I ((L, .ns m) :: ((cs L).map fun p => (p.2, .ce (cm p.1))) ++ ms) s' →
      wpAny (model PG w) A' (execs body (callEnvC (fdOf o) L f)) (fun fl s'' => Q (match fl with | .ret v => v | _ => .none) s'') E' s') :
    codeAny (model PG w) A (.call (.ref f) ⟨pos, []⟩) (wants Q E) s := by
  simp only [okFnC, Bool.and_eq_true, beq_iff_eq] at hok
  obtain ⟨hloc, ⟨⟨⟨⟨⟨k1, k2⟩, k3⟩, k4⟩, k5⟩, k6⟩, k7⟩ := hok
  have k4 : (fdOf o).scope.kind = .function := by
    revert k4; cases (fdOf o).scope.kind <;> intro k4 <;> first | rfl | cases k4
  have lk : ∀ (l : List (Str × Addr)), (l.map (·.1)).Nodup → ∀ p ∈ l, l.lookup p.1 = some p.2 := by
    intro l
    induction l with
    | nil => intro _ p hp; cases hp
    | cons q r ih =>
      intro nd p hp
      rw [List.map_cons, List.nodup_cons] at nd
      rcases List.mem_cons.mp hp with rfl | hp
      · rw [List.lookup_cons]; simp
      · have : (p.1 == q.1) = false := beq_false_of_ne fun e => nd.1 (e ▸ List.mem_map_of_mem hp)
        rw [List.lookup_cons, this]; exact ih nd.2 p hp
  refine codeAny_call_cells hA.room (S.kin _ _ ho) hd S.nolimit (codeRec_of S.kin k1) hb hbind (List.isEmpty_iff.mp k7) (fun x hx => ?_) (fun s₁ ic => ?_) k2 k3 k4
  · have := List.all_eq_true.mp hloc x.1 (List.mem_map_of_mem hx)
    rcases Bool.or_eq_true _ _ |>.mp this with q | q
    · left
      revert q; cases (fdOf o).scope.names.lookup x.1 with
      | none => intro q; cases q
      | some k => cases k <;> intro q <;> first | rfl | cases q
    · right
      obtain ⟨q1, q2⟩ := Bool.and_eq_true _ _ |>.mp q
      refine ⟨?_, ?_⟩
      · revert q1; cases (fdOf o).scope.names.lookup x.1 with
        | none => intro q; cases q
        | some k => cases k <;> intro q <;> first | rfl | cases q
      · rw [hcs]
        have q2 : x.1 ∈ xs := by simpa using q2
        rw [← hxs s.heap.objs.size] at q2
        obtain ⟨p, hp, e⟩ := List.mem_map.mp q2
        rw [← e, lk _ (by rw [hxs]; exact hnd) p hp]; rfl
  · have ec : (callEnvC (fdOf o) s.heap.objs.size f).cells = cs s.heap.objs.size := hcs _
    obtain ⟨⟨⟨hh, tk, rfl⟩, hns, hkeep, hfresh⟩, hcell, hap, hab⟩ := ic
    rw [ec] at hcell hap hab
    refine h _ _ _ _ (hA.call _) ⟨rfl, k5, k6, k4⟩ ec ?_
    have hns : (Heap.Ns hh s.heap.objs.size m) := hm ▸ hns
    refine St.news S (cs := (s.heap.objs.size, .ns m) :: ((cs s.heap.objs.size).map fun p => (p.2, .ce (cm p.1)))) (fun p hp => ?_) ?_ hkeep S.gens
    · rcases List.mem_cons.mp hp with rfl | hp
      · exact ⟨Nat.le_refl _, hns⟩
      · obtain ⟨q, hq, rfl⟩ := List.mem_map.mp hp
        refine ⟨Nat.le_of_lt (hab q.1 q.2 hq), ?_⟩
        have := hcell q.1 q.2 (lk _ (by rw [hxs]; exact hnd) q hq)
        exact hcm ▸ this
    · rw [List.map_cons, List.map_map]
      refine List.nodup_cons.mpr ⟨fun z => ?_, ?_⟩
      · obtain ⟨q, hq, e⟩ := List.mem_map.mp z
        have e : q.2 = s.heap.objs.size := e
        have z := hab q.1 q.2 hq
        rw [e] at z
        exact Nat.lt_irrefl _ z
      · rw [List.nodup_iff_pairwise_ne, List.pairwise_map]
        exact hap
theorem nC {i : Nat} {c : Addr} {pos : Pos} {Q : Value → Shared → Prop} (S : St w O I ms s) (hk : env.scope.kind = .function) (hl : env.kindOf name = some .cell) (hc : env.cells.lookup name = some c) (hi : ms[i]? = some (c, .ce (some v))) (h : Q v s) (hd : (name == ("__debug__" : Str)) = false) :
    wpAny (model PG w) A (eval (.Name name pos) env) Q E s := wpAny_Name (wpAny_loadName_cell hk hl hc (S.get hi) h) hd
theorem sC {i : Nat} {c : Addr} {v₀ : Option Value} {Q : Unit → Shared → Prop} (S : St w O I ms s) (hk : env.scope.kind = .function) (hl : env.kindOf name = some .cell) (hc : env.cells.lookup name = some c) (hi : ms[i]? = some (c, .ce v₀))
    (h : ∀ s', St w O I (ms.set i (c, .ce (some v))) s' → Q () s') : wpAny (model PG w) A (storeName env name v) Q E s :=
  wpAny_storeName_cell hk hl hc (S.get hi) fun h' hc' hs => h _ (S.set hi (fun b hb o e => (hs.2 b hb).trans e) hc' S.gens)
end
theorem putL_same (name : Str) (hsh : Int) (key v : Value) : ∀ es : List DictEntry, (es.find? (·.key.isStr name)).isSome = true → (putL name hsh key v es).length = es.length
  | [], h => by cases h
  | e :: r, h => by
    unfold putL
    split
    · rfl
    · rename_i q
      rw [List.find?_cons] at h
      have q : e.key.isStr name = false := by simpa using q
      rw [q] at h
      simp [putL_same name hsh key v r h]
section
variable {w : World} {O : OsState} {A : Around} {E : Value → Shared → Prop} {s : Shared} {I : Im} {ms : Ms} {L x C dx : Addr} {env : Env} {m : Str → Option Value} {name : Str} {v : Value}
/-- an attribute that is there already -/
theorem setA2 {i j : Nat} {v₀ : Value} {Q : Unit → Shared → Prop} (S : St w O I ms s) (hx : ms[i]? = some (x, .ob (instObj C dx))) {k : Nat} (hd : ms[j]? = some (dx, .dc m k)) (hC : setOk (K0 w.params) C name = true) (hk : k < 1000) (h0 : m name = some v₀)
    (h : ∀ s', St w O I (ms.set j (dx, .dc (upd m name v) k)) s' → Q () s') : wpAny (model PG w) A (setAttr (.ref x) name v) Q E s := by
  simp only [setOk, Bool.and_eq_true, beq_iff_eq] at hC
  obtain ⟨⟨⟨c1, c2⟩, c3⟩, c4⟩ := hC
  obtain ⟨es, n, hn, hl, D⟩ := S.get hd
  obtain ⟨cd, hc, hdc⟩ := any_some c4
  have J : InstAt s.heap x (instObj C dx) C (some (dictOf es n)) := ⟨S.get hx, rfl, rfl, hn⟩
  have e : Obj.putName name (PyData.keyHash w.params name) (.str name (s.toks + 1)) v (dictOf es n) = dictOf (putL name (PyData.keyHash w.params name) (.str name (s.toks + 1)) v es) (putN name es n) := putName_dict ..
  refine set_plain S.kin J c1 (osa_open (s := { s with toks := s.toks + 1 }) S.kin J c2 c3 fun b => ?_)
  refine wpAny_bind (wpAny_pure (wpAny_bind (wpAny_bind (wpAny_loadPart (S.get hx) (wpAny_bind (looks_clsIn (M := model PG w) S.kin hc _ _ _ _ (fun _ _ e => e) ?_))))))
  rw [hdc]
  refine wpAny_pure (a := some dx) (wpAny_bind (wpAny_pure (wpAny_bind ?_)))
  unfold nsSet
  refine wpAny_bind (wpAny_bind (wpAny_askSetting (wpAny_pure (wpAny_bind (wpAny_mkText (wpAny_bind (wpAny_loadPart hn ?_)))))))
  have c : (!es.toArray.any (·.key.isStr name) && es.toArray.any (·.refKey)) = false := by
    have : es.toArray.any (·.refKey) = false := by
      rw [← Array.any_toList, List.any_eq_false]
      intro e he
      obtain ⟨n, t, hkey⟩ := D.1 e he
      unfold DictEntry.refKey
      rw [hkey]; simp
    rw [this, Bool.and_false]
  dsimp only
  rw [aRefKeyMayBeTheName_at, c]
  refine wpAny_updatePart hn ?_
  have hn' : (s.heap.update dx (Obj.putName name (PyData.keyHash w.params name) (.str name (s.toks + 1)) v)).get? dx = some (dictOf (putL name (PyData.keyHash w.params name) (.str name (s.toks + 1)) v es) (putN name es n)) := by
    rw [← e]; exact Heap.get?_update_self _ hn (by rw [e]; rfl)
  have len : (putL name (PyData.keyHash w.params name) (.str name (s.toks + 1)) v es).length = es.length := putL_same _ _ _ _ _ (by
    have := D.2 name; rw [h0] at this
    cases q : es.find? (·.key.isStr name) with
    | none => rw [q] at this; cases this
    | some _ => rfl)
  have z : 1000 < sizeLine := by rw [sizeLine_eq]; (clear hk hl len; (first | lia | omega))
  refine wpAny_bind (wpAny_lookBehind hn' (pastItsLine_dict (by rw [List.size_toArray, len]; (first | lia | omega))) ?_)
  refine wpAny_pure (h _ ?_)
  exact S.set hd (fun b hb o q => (Heap.get?_update_ne _ _ _ _ hb).trans q) ⟨_, _, hn', by (clear hk z; (first | lia | omega)), D.put⟩ S.gens
end

end
section
open Builtin Builtin.Str
noncomputable def kCuts (x : Str) : List (Nat × Nat) := (lineSpans x).map fun (i, j, k) => (i, if true = true then k else j)
noncomputable def kLines (x : Str) : List Str := if (kCuts x == [(0, x.length)]) = true then [x] else (kCuts x).map fun (p : Nat × Nat) => strSub x p.1 p.2
theorem kCuts_le (x : Str) : (kCuts x).length ≤ x.length + 1 := by
  have := lineCuts_le x
  unfold kCuts; unfold lineCuts at this
  rw [List.length_map] at this ⊢; exact this
theorem splitlines_keep (x : Str) (t : Tok) : «str.splitlines» ⟨[.str x t, .bool true], []⟩ = (do
    if (true && kCuts x == [(0, x.length)]) = true then (do rule "str.splitlines.same-object"; ret (← newList [.str x t]))
    else ret (← newList (← (kCuts x).mapM fun (i, j) => mkStr (strSub x i j)))) := rfl
theorem meets_keep (x : Str) (t : Tok) (hsz : x.length ≤ sizeLine) (hsz2 : (kCuts x).length ≤ sizeLine) : Meets («str.splitlines» ⟨[.str x t, .bool true], []⟩) (fun A R s =>
    if (kCuts x == [(0, x.length)]) = true then listOfItself x t A R s
    else R (.ok (.ret (.ref s.heap.objs.size))) { s with toks := s.toks + (kCuts x).length, heap := s.heap.push { cls := .type "list", data := .seq (strsFrom s.toks ((kCuts x).map fun (p : Nat × Nat) => strSub x p.1 p.2)).toArray } }) := by
  refine .of_wp fun prog w A R s h => ?_
  rw [splitlines_keep]
  show wpAny _ _ (if (true && kCuts x == [(0, x.length)]) = true then (do rule "str.splitlines.same-object"; ret (← newList [.str x t]))
    else (do ret (← newList (← (kCuts x).mapM fun (i, j) => mkStr (strSub x i j))))) _ _ s
  revert h
  cases kCuts x == [(0, x.length)]
  · intro h
    show wpAny _ _ (do ret (← newList (← (kCuts x).mapM fun (i, j) => mkStr (strSub x i j)))) _ _ s
    exact wpAny_bind (wpAny_mapM_mkStr_of (fun (p : Nat × Nat) => strSub x p.1 p.2) (fun p => Nat.le_trans (strSub_length_le ..) hsz) _ _ _ (wpAny_bind (wpAny_newList (wpAny_pure ⟨_, rfl, h⟩) (by rw [strsFrom_length, List.length_map]; exact hsz2))))
  · intro h
    show wpAny _ _ (do rule "str.splitlines.same-object"; ret (← newList [.str x t])) _ _ s
    exact wpAny_bind (wpAny_rule (wpAny_bind (wpAny_newList (wpAny_pure ⟨_, rfl, h⟩) (by show 1 ≤ sizeLine; decide))))
section
variable {w : World} {O : OsState} {A : Around} {E : Value → Shared → Prop} {s : Shared} {I : Im} {ms : Ms} {L : Addr} {env : Env} {x y : Str} {t u : Tok} {Q : Value → Shared → Prop}
theorem St.pushS {tk : Nat} {vs : Array Value} (S : St w O I ms s) : St w O I ((s.heap.objs.size, .ls vs) :: ms) { s with toks := tk, heap := s.heap.push { cls := .type "list", data := .seq vs } } :=
  (S.push (.ls vs) ⟨_, Heap.get?_push_size _ rfl⟩).toks
theorem splitS (S : St w O I ms s) (hx : x.length ≤ 100000) (h : ∀ s' D l, l.map (·.1) = kLines x → St w O I ((D, .ls (strValues l).toArray) :: ms) s' → Q (.ref D) s') :
    wpAny (model PG w) A (call (.builtin "str.splitlines") [.str x t, .bool true]) Q E s := by
  have c := kCuts_le x
  refine call_meets F.slot_str_splitlines (typeIs_str _ _ _) F.entry_str_splitlines (F.args_str_splitlines_2 _ _) (meets_keep x t (by rw [sizeLine_eq]; (clear c; (first | lia | omega))) (by rw [sizeLine_eq]; (first | lia | omega))) ?_
  cases hw : kCuts x == [(0, x.length)]
  · simp only [Bool.false_eq_true, if_false]
    rw [strsFrom_eq]
    exact h _ _ (numbered s.toks _) ((numbered_texts _ _).trans (if_neg (ne_true_of_eq_false hw)).symm) S.pushS
  · simp only [if_true]
    exact h _ _ [(x, t)] (if_pos hw).symm (S.pushS (tk := s.toks))
theorem rsplitS {k : Int} {v : Tok} (S : St w O I ms s) (hx : x.length ≤ 100000) (hy : (y.length == 0) = false) (hk : (decide (k < -(2 ^ 63 : Int)) || decide (k ≥ 2 ^ 63)) = false)
    (h : ∀ s' D l, l.map (·.1) = Txt.rsplitMax x y k → St w O I ((D, .ls (strValues l).toArray) :: ms) s' → Q (.ref D) s') :
    wpAny (model PG w) A (call (.builtin "str.rsplit") [.str x t, .str y u, .int k v]) Q E s := by
  have hn : (partsBetween x (occurrencesFromRight x y (limitOf x k)) y.length).length ≤ sizeLine := by
    have e1 := StrLaws.occR_length_le_len x y (limitOf x k)
    rw [length_partsBetween, sizeLine_eq]; (first | lia | omega)
  cases h1 : (decide (x.length < y.length) || decide (strKind x < strKind y))
  · cases hf : (occurrencesFromRight x y (limitOf x k)).isEmpty
    · refine call_meets F.slot_str_rsplit (typeIs_str _ _ _) F.entry_str_rsplit (F.args_str_rsplit_3 _ _ _) (meets_str_rsplit_sep_max x y k t u v hk h1 hy hf (by rw [sizeLine_eq]; (clear hn; (first | lia | omega))) hn) ?_
      show wants Q E _ { s with toks := _, heap := s.heap.push { cls := .type "list", data := .seq (strsFrom s.toks (partsBetween x (occurrencesFromRight x y (limitOf x k)) y.length)).toArray } }
      rw [strsFrom_eq]
      exact h _ _ (numbered s.toks _) ((numbered_texts _ _).trans ((if_neg (ne_true_of_eq_false h1)).trans (if_neg (ne_true_of_eq_false hf))).symm) S.pushS
    · exact call_meets F.slot_str_rsplit (typeIs_str _ _ _) F.entry_str_rsplit (F.args_str_rsplit_3 _ _ _) (meets_str_rsplit_max_not_found x y k t u v hk h1 hy hf)
        (h _ _ [(x, t)] ((if_neg (ne_true_of_eq_false h1)).trans (if_pos hf)).symm (S.pushS (tk := s.toks)))
  · exact call_meets F.slot_str_rsplit (typeIs_str _ _ _) F.entry_str_rsplit (F.args_str_rsplit_3 _ _ _) (meets_str_rsplit_max_cannot_occur x y k t u v hk h1)
      (h _ _ [(x, t)] (if_pos h1).symm (S.pushS (tk := s.toks)))
/-- what follows the fetching of a method of a text -/
theorem strM {id : String} {a : Value} {pos : Pos} {e : Expr} {rest : List Expr} (h : wpAny (model PG w) A (spliced (backTo pos (starEach (e :: rest) env))) (fun vs s₁ => wpAny (model PG w) A (call (.builtin id) (a :: vs)) Q E s₁) E s)
    (he : starEach (e :: rest) env = (false, eval e env) :: starEach rest env := by rfl) (hp : (backTo pos (starEach rest env)).any (·.1) = false := by rfl) :
    wpAny (model PG w) A (callWith pos (.builtin id) [a] (backTo pos (starEach (e :: rest) env)) []) Q E s := by
  rw [he] at h ⊢
  exact Calls.callWith_builtin (first := [a]) (by show (false || (backTo pos (starEach rest env)).any (·.1)) = false; rw [hp]; rfl) (Calls.evalArgs_plain h)
end

end
section
theorem lk357 (P : Params) : (K0 P).lookup 357 = some (ko357 P) := by kernel_rfl
noncomputable abbrev e357 (w : World) (L : Addr) : Env := callEnvC (fdOf (ko357 w.params)) L 357
/-- the texts of a list -/
noncomputable def TL (vs : Array Value) (ts : List Str) : Prop := ∃ l, vs = (strValues l).toArray ∧ l.map (·.1) = ts
theorem TL.nil : TL #[] [] := ⟨[], rfl, rfl⟩
theorem TL.push {vs : Array Value} {ts : List Str} {u : Str} {t : Tok} (h : TL vs ts) : TL (vs.push (.str u t)) (ts ++ [u]) := by
  obtain ⟨l, rfl, rfl⟩ := h
  exact ⟨l ++ [(u, t)], by simp [strValues], by simp⟩
theorem TL.size {vs : Array Value} {ts : List Str} (h : TL vs ts) : vs.size = ts.length := by obtain ⟨l, rfl, rfl⟩ := h; simp [strValues]
theorem TL.get {vs : Array Value} {ts : List Str} {j : Nat} {v : Value} (h : TL vs ts) (e : vs[j]? = some v) : ∃ u t, ts[j]? = some u ∧ v = .str u t := by
  obtain ⟨l, rfl, rfl⟩ := h
  have e : (strValues l)[j]? = some v := by simpa using e
  unfold strValues at e
  rw [List.getElem?_map] at e
  cases q : l[j]? with
  | none => rw [q] at e; cases e
  | some p => rw [q] at e; exact ⟨p.1, p.2, by rw [List.getElem?_map, q]; rfl, (Option.some.inj e).symm⟩
noncomputable def inL (p l : Str) : Str := if (Txt.strip l).length = 0 then l else p ++ l
noncomputable def indS (x p : Str) : Str := Txt.join "" ((kLines x).map (inL p))
section
variable {w : World} {O : OsState} {A : Around} {E : Value → Shared → Prop} {s : Shared} {I : Im} {ms : Ms} {L : Addr} {env : Env} {x y : Str} {t u : Tok} {Q : Value → Shared → Prop}
theorem joinS {i : Nat} {D : Addr} {vs : Array Value} {ts : List Str} (S : St w O I ms s) (hi : ms[i]? = some (D, .ls vs)) (h : TL vs ts) (hj : JoinOk x ts = true) (q : ∀ s' t', St w O I ms s' → Q (.str (Txt.join x ts) t') s') :
    wpAny (model PG w) A (call (.builtin "str.join") [.str x t, .ref D]) Q E s := by
  obtain ⟨l, rfl, e⟩ := h
  exact SC.join (S.gl hi) e hj fun t' k => q _ _ S.toks
theorem kl_short {x a : Str} (h : a ∈ kLines x) : a.length ≤ x.length := by
  unfold kLines at h
  split at h
  · rw [List.mem_singleton.mp h]; exact Nat.le_refl _
  · obtain ⟨p, _, rfl⟩ := List.mem_map.mp h; exact sub_short x _ _
theorem indent_spec {n : Nat} {p : Str} (hA : Ok A (n + 2)) (S : St w O I ms s) (hx : x.length ≤ 90000) (hp : p.length ≤ 1000) (hj : JoinOk "" ((kLines x).map (inL p)) = true) (q : ∀ s' t', St w O I ms s' → Q (.str (indS x p) t') s') :
    codeAny (model PG w) A (.call (.ref 357) ⟨[.str x t, .str p u], []⟩) (wants Q E) s := by
  refine enterC (n := n + 1) (binds := [("text", .str x t), ("prefix", .str p u)]) (fun L => [("prefix", L + 1)]) ["prefix"] S hA (lk357 _) rfl rfl (by kernel_rfl) (by kernel_rfl) (fun L => by kernel_rfl) (fun L => rfl) (by decide +kernel)
    (fun y => if y = "prefix" then some (.str p u) else none) (fun y => if y = "text" then some (.str x t) else none) (by kernel_rfl) (by kernel_rfl) fun A' L s' E' hA' V hc S => ?_
  change wpAny _ A' (execs (fnB (stA 19)) (e357 w L)) _ _ _
  have S : St w O I ((L, .ns fun y => if y = "text" then some (.str x t) else none) :: (L + 1, .ce (some (.str p u))) :: ms) s' := S
  refine wpAny_execs_cons ?_
  with_reducible refine wpAny_Return_some ?_
  ((with_reducible show wpAny _ _ (eval (.Call (.Attribute _ _ _) _ _ _) _) _ _ _); refine methodCall_KW ?_)
  (with_reducible refine cS (by assumption) ?_; intro _ _ _)
  dsimp only
  refine GM.join ?_
  refine strM ?_
  refine wpAny_items_cons ?_
  have hsz : (kLines x).length ≤ x.length + 1 := by
    have c := kCuts_le x
    unfold kLines; split
    · simp
    · rw [List.length_map]; exact c
  rename_i S0 _
  have S := S0
  refine listComp (O := O) hA' V (cl := [("prefix", L + 1)]) rfl (by kernel_rfl) (by kernel_rfl) (by decide +kernel) (by kernel_rfl) ?_
  ((with_reducible show wpAny _ _ (eval (.Call (.Attribute _ _ _) _ _ _) _) _ _ _); refine methodCall_KW ?_)
  ((with_reducible show wpAny _ _ (eval (.Name _ _) _) _ _ _); refine nL (by assumption) (by assumption) (by kernel_rfl) (by first | with_unfolding_all rfl | with_unfolding_all assumption) ?_ (by decide +kernel))
  refine GM.splitlines ?_
  refine strM ?_
  ((with_reducible show wpAny _ _ (spliced (backTo _ (starEach (_ :: _) _))) _ _ _); refine wpAny_items_cons ?_)
  with_reducible refine cB ?_
  ((with_reducible show wpAny _ _ (spliced (backTo _ (starEach [] _))) _ _ _); refine wpAny_items_nil ?_)
  refine splitS (by assumption) (by (clear hp hsz; (first | lia | omega))) fun s₂ D l hl S => ?_
  have hTL : TL (strValues l).toArray (kLines x) := ⟨l, rfl, hl⟩
  refine ⟨D, I, _, (strValues l).toArray, (fun j I' ms' acc => I' = I ∧ ms' = (D, .ls (strValues l).toArray) :: (L, .ns fun y => if y = "text" then some (.str x t) else none) :: (L + 1, .ce (some (.str p u))) :: ms ∧ TL acc (((kLines x).map (inL p)).take j)), rfl, S, S.gl (i := 0) rfl, ⟨rfl, rfl, TL.nil⟩, ?_, ?_, ?_, ?_, ?_⟩
  · rintro j I' ms' acc pp s ⟨rfl, rfl, _⟩ S
    exact S.gl (i := pp.length) (by rw [List.getElem?_append_right (Nat.le_refl _), Nat.sub_self]; rfl)
  · rintro j I' ms' acc ⟨_, _, h⟩
    rw [h.size, List.length_take]; exact Nat.min_le_left _ _
  · rw [hTL.size]; (clear hp; (first | lia | omega))
  · rintro j v I' ms' acc C D' it m s₃ E₁ hv ⟨rfl, rfl, hacc⟩ hm S
    obtain ⟨z, tz, hz, rfl⟩ := hTL.get hv
    have hzl : z.length ≤ x.length := kl_short (List.mem_of_getElem? hz)
    have V' := compOk (scope := (match (fnB (stA 19))[0]? with | some (Stmt.Return (some (.Call _ [.ListComp _ _ sc _] _ _)) _) => sc | _ => default)) (cl := [("prefix", L + 1)]) (C := C) V (by kernel_rfl)
    have hmap : ((kLines x).map (inL p))[j]? = some (inL p z) := by rw [List.getElem?_map, hz]; rfl
    have htk : ((kLines x).map (inL p)).take (j + 1) = ((kLines x).map (inL p)).take j ++ [inL p z] := by
      rw [List.take_add_one, hmap]; rfl
    rw [List.forIn_nil]
    refine wpAny_pure ?_
    rw [if_pos rfl]
    refine wpAny_IfExp ?_
    have hI : ∀ (y : Str) ty s₅ (S : St w O I' ((C, .ns m) :: (D', .ls acc) :: (it, .it D (j + 1)) :: (D, .ls (strValues l).toArray) :: (L, .ns fun y => if y = "text" then some (.str x t) else none) :: (L + 1, .ce (some (.str p u))) :: ms) s₅), y = inL p z →
      ∃ I₂ ms', St w O I₂ ((C, .ns m) :: (D', .ls acc) :: (it, .it D (j + 1)) :: ms') s₅ ∧ (I₂ = I' ∧ ms' = (D, .ls (strValues l).toArray) :: (L, .ns fun y => if y = "text" then some (.str x t) else none) :: (L + 1, .ce (some (.str p u))) :: ms ∧ TL (acc.push (.str y ty)) (((kLines x).map (inL p)).take (j + 1))) := by
      rintro y ty s₅ S rfl
      exact ⟨I', _, S, rfl, rfl, by rw [htk]; exact hacc.push⟩
    refine isTrue_plain ?_
    refine methodCall_KW ?_
    refine nL S V' (by kernel_rfl) hm ?_ (by decide +kernel)
    refine GM.strip ?_
    refine PyProof.Rows.callWith_method0 ?_
    refine SC.strip (fun t₃ k₃ => ?_) (by rw [sizeLine_eq]; (clear hp hsz; (first | lia | omega)))
    have S := S.toks (t := k₃)
    have hst := PyProof.Rows.len_strip z
    refine SBL.truthy (by (clear hp hsz; (first | lia | omega))) ?_
    have S := S.toks (t := k₃ + 1 + 1)
    by_cases hc : (Txt.strip z).length = 0
    · have e : (((Txt.strip z).length : Int) != 0) = false := by rw [hc]; rfl
      rw [e, if_neg Bool.false_ne_true]
      refine nL S V' (by kernel_rfl) hm ?_ (by decide +kernel)
      exact hI z tz _ S (by unfold inL; rw [if_pos hc])
    · have e : (((Txt.strip z).length : Int) != 0) = true := by rw [bne_iff_ne]; (clear hx hp hsz hzl hst; (first | lia | omega))
      rw [e, if_pos rfl]
      refine wpAny_BinOp ?_
      refine nC (i := 5) (v := .str p u) S (by kernel_rfl) (by kernel_rfl) (by kernel_rfl) (by rfl) ?_ (by decide +kernel)
      refine nL S V' (by kernel_rfl) hm ?_ (by decide +kernel)
      refine addS S (by (clear hsz hst hc; (first | lia | omega))) fun s₆ t₆ S => ?_
      exact hI _ t₆ _ S (by unfold inL; rw [if_neg hc])
  · rintro I' ms' acc D' s₃ ⟨rfl, rfl, hacc⟩ S
    have hlen : (strValues l).toArray.size = ((kLines x).map (inL p)).length := by rw [hTL.size, List.length_map]
    rw [hlen, List.take_length] at hacc
    ((with_reducible show wpAny _ _ (spliced (backTo _ (starEach [] _))) _ _ _); refine wpAny_items_nil ?_)
    refine joinS (i := 0) S rfl hacc hj fun s₄ t' S => q _ _ ?_
    exact S.sub (by repeat (first | exact List.Sublist.refl _ | apply List.Sublist.cons₂ | apply List.Sublist.cons))
end

end
section
open Builtin Builtin.ObjectAttr Builtin.Getset_descriptor
noncomputable def slotName (K : Frag) (C : Addr) (q : Str) : Bool := match ((K.lookup C).bind fun o : Obj => o.slots[2]? : Option (Option Value)) with | some (some (Value.str n _)) => n == q | _ => false
noncomputable def nameGet (K : Frag) (C : Addr) : Bool := match findCls K (.ref C) (.type "type") "__name__" with | some (.get (.builtin a) (.builtin b) (.ref c) (.type d)) => a == "getset_descriptor.__get__" && b == "type.__name__" && c == C && d == "type" | _ => false
noncomputable def nameOk (K : Frag) (C : Addr) (q : Str) : Bool := readsIn K C (.type "type") && nameGet K C && typeIn K (.ref C) == some (.type "type") && slotName K C q
noncomputable def isiNo (K : Frag) (D C : Addr) : Bool := kin_not K D C && plainGet K D "__class__" && hasDictIn K D && findIn K (.ref D) "__class__" == some (some (.builtin "object.__class__")) && specialIn K (.builtin "object.__class__") "__get__" == some (some (.builtin "getset_descriptor.__get__")) &&
  takesIn K (.builtin "object.__class__") == some true && mroIn K D (.type "object") == some true
noncomputable def boundOk (K : Frag) (C : Addr) (name : Str) (f : Addr) : Bool := plainGet K C name && hasDictIn K C && findIn K (.ref C) name == some (some (.ref f)) && isFn K (.ref f) && specialIn K (.ref f) "__get__" == some (some (.builtin "function.__get__")) && takesIn K (.ref f) == some false && !copiedNames.contains name
noncomputable def propOk (K : Frag) (C : Addr) (name : Str) (p f : Addr) : Bool := plainGet K C name && hasDictIn K C && findIn K (.ref C) name == some (some (.ref p)) && specialIn K (.ref p) "__get__" == some (some (.builtin "property.__get__")) && takesIn K (.ref p) == some true && (match recIn K p "property" with | some (.ref g :: _) => g == f | _ => false)
section
variable {w : World} {O : OsState} {A : Around} {E : Value → Shared → Prop} {s : Shared} {I : Im} {ms : Ms} {L x C D : Addr} {env : Env} {m : Str → Option Value} {Q : Value → Shared → Prop} {name q : Str} {expr : Bool} {t : Tok} {R : Result → Shared → Prop} {y : Str}
theorem isiT (S : St w O I ms s) (H : HI s.heap x C m) (e : isIn (K0 w.params) (.ref C) D = true) (h : Q (.bool true) s) : wpAny (model PG w) A (call (.builtin "isinstance") [.ref x, .ref D]) Q E s := by
  obtain ⟨dx, od, J, _⟩ := H.inst
  exact isi_call S.kin (fun M => J.type) e (by intro z; cases z) h
theorem isiF (S : St w O I ms s) (H : HI s.heap x C m) (e : isiNo (K0 w.params) C D = true) (h : ∀ s', St w O I ms s' → Q (.bool false) s') : wpAny (model PG w) A (call (.builtin "isinstance") [.ref x, .ref D]) Q E s := by
  obtain ⟨dx, od, J, _⟩ := H.inst
  simp only [isiNo, Bool.and_eq_true, beq_iff_eq] at e
  obtain ⟨⟨⟨⟨⟨⟨e1, e2⟩, e3⟩, e4⟩, e5⟩, e6⟩, e7⟩ := e
  exact kin_callC S.kin J e1 e2 e3 e4 e5 e6 e7 (h _ S.toks)
theorem isiS (S : St w O I ms s) (e : isNotIn (K0 w.params) "str" D = true) (h : ∀ s', St w O I ms s' → Q (.bool false) s') : wpAny (model PG w) A (call (.builtin "isinstance") [.str y t, .ref D]) Q E s :=
  isn_call (P := fun _ => True) S.kin (fun M => Looks.of_pure rfl) e (by intro z; cases z) trivial str_cls (h _ S.toks)
theorem isiL {o : Obj} (S : St w O I ms s) (ho : s.heap.get? x = some o) (hc : o.cls = .type "list") (e : isNotIn (K0 w.params) "list" D = true) (h : ∀ s', St w O I ms s' → Q (.bool false) s') : wpAny (model PG w) A (call (.builtin "isinstance") [.ref x, .ref D]) Q E s :=
  isn_call (P := fun h => ∃ o, h.get? x = some o ∧ o.cls = .type "list") S.kin (fun M => by
    intro A' Q' E' s' k q'
    exact wpAny_typeOf (⟨o, k _ _ ho, hc⟩ : s'.TypeIs (.ref x) "list") q') e (by intro z; cases z) ⟨o, ho, hc⟩ list_cls (h _ S.toks)
theorem clsName (S : St w O I ms s) (e : nameOk (K0 w.params) C q = true) (h : ∀ s' t, St w O I ms s' → Q (.str q t) s') : wpAny (model PG w) A (getAttr (.ref C) "__name__" expr) Q E s := by
  simp only [nameOk, Bool.and_eq_true, beq_iff_eq] at e
  obtain ⟨⟨⟨e1, e2⟩, e3⟩, e4⟩ := e
  unfold slotName at e4
  split at e4
  case h_2 => cases e4
  rename_i n tk hs
  obtain ⟨o, ho, hs⟩ := Option.bind_eq_some_iff.mp hs
  have e4 : n = q := by simpa using e4
  subst e4
  unfold nameGet at e2
  split at e2
  case h_2 => cases e2
  rename_i a' b' c' d' e2'
  simp only [Bool.and_eq_true, beq_iff_eq] at e2
  obtain ⟨⟨⟨rfl, rfl⟩, q3⟩, rfl⟩ := e2
  rw [q3] at e2'
  have e2 := e2'
  have hoh := S.kin _ _ ho
  refine cls_bind S.kin e1 e2 (wpAny_call ?_)
  have S := S.toks (t := s.toks + 1)
  obtain ⟨hh, g, dr, t, os⟩ := s
  have L0 : Looks (model PG w) hh (typeOf (.ref C)) (.type "type") := looks_typeIn S.kin e3
  have L1 : Looks (model PG w) hh (isSubtype (.type "type") (.type "type")) true := Looks.of_pure (by rw [isSubtype_type]; kernel_rfl)
  have dga : descrGetArgs ⟨[.builtin "type.__name__", .ref C, .type "type"], []⟩ = pure (.builtin "type.__name__", some (.ref C), given (.type "type")) := by kernel_rfl
  refine codeAny_call_builtin KF.slot_gs.plain KF.entry_gs (KF.slot_gs.check _ _ _ _ _ _ _ _ ktyn_type (KF.args_gs _ _ _) ?_)
  unfold Builtin.«getset_descriptor.__get__» descrGet
  rw [dga]
  refine wpAny_bind (wpAny_pure ?_)
  unfold descrGetter descrCheckInstance descrNameAndClass isInstance
  simp only [ktyn_owner]
  repeat lk
  refine ⟨Code.quiet_builtin _ (by decide +kernel), codeAny_builtin ktyn_entry ?_⟩
  unfold Builtin.«type.__name__»
  dsimp only
  unfold keptObject slotAt
  dsimp only
  refine wpAny_bind (wpAny_bind (wpAny_loadPart hoh ?_))
  rw [hs]
  exact wpAny_pure (wpAny_pure (handed_on rfl (h _ _ S)))
theorem typeI (H : HI s.heap x C m) (h : Q (.ref C) s) : wpAny (model PG w) A (call (.type "type") [.ref x]) Q E s := by
  obtain ⟨dx, es, n, e, _⟩ := H
  obtain ⟨hh, g, d, t, os⟩ := s
  exact call_type_obj e (by rfl) h
theorem nameT {T q : String} (S : St w O I ms s) (ht : kitMeta T = true) (hs : Manifest.isStub T = false) (e : findCls (K0 w.params) (.type T) (.type "type") "__name__" = some (.get (.builtin "getset_descriptor.__get__") (.builtin "type.__name__") (.type T) (.type "type")))
    (hq : ktynFast T = q) (hz : (Str.ofString q).length ≤ sizeLine) (h : ∀ s' t, St w O I ms s' → Q (.str (Str.ofString q) t) s') : wpAny (model PG w) A (getAttr (.type T) "__name__" expr) Q E s := by
  have hstub : opaqueClassAbove (.type T) = pure none := by unfold opaqueClassAbove; dsimp only; rw [hs]; rfl
  have hg : findIn (K0 w.params) (.type "type") "__getattribute__" = some (some (.builtin "type.__getattribute__")) := type_tga
  refine cls_open S.kin (Looks.of_pure hstub) (Looks.of_pure (kitMeta_of ht)) hg (looks_hook S.kin (r := none) (by rfl)) (by show subIn (K0 w.params) _ _ = _; rfl) e ?_
  show wpAny _ _ (do ret (← holding [Value.builtin "type.__name__"] (call (.builtin "getset_descriptor.__get__") [.builtin "type.__name__", .type T, .type "type"]))) _ _ _
  refine wpAny_bind (wpAny_holding (wpAny_call (ktyn_get (s := { s with toks := s.toks + 1 }) (kitMeta_of ht) hq hz ?_)))
  exact wpAny_pure (handed_on rfl (h _ _ S.toks))
/-- getattr(self, name) gives the bound method -/
theorem getBound {f : Addr} (S : St w O I ms s) (H : HI s.heap x C m) (hv : m name = none) (e : boundOk (K0 w.params) C name f = true) (h : ∀ s' b, St w O I ((b, .ob (methodObj (.ref f) (.ref x))) :: ms) s' → Q (.ref b) s') :
    wpAny (model PG w) A (call (.builtin "getattr") [.ref x, .str name t]) Q E s := by
  simp only [boundOk, Bool.and_eq_true, beq_iff_eq, Bool.not_eq_true'] at e
  obtain ⟨⟨⟨⟨⟨⟨e1, e2⟩, e3⟩, e4⟩, e5⟩, e6⟩, e7⟩ := e
  obtain ⟨dx, od, J, hl⟩ := H.inst
  refine kbm_getattr2 (kbm_bind S.kin J (plainGet_of e1).1 (findObj_fn e2 e3 e5 e6 e7 (by rw [hl, hv])) (plainGet_of e1).2 (wpAny_call (fn_get S.kin (beq_iff_eq.mp e4) (handed_on rfl ?_))))
  exact h _ _ (S.push (.ob (methodObj (.ref f) (.ref x))) (Heap.get?_push_size _ rfl))
theorem getProp {p f : Addr} {body : List Stmt} {v : Value} {o : Obj} {n : Nat} (S : St w O I ms s) (H : IHI I x C m) (e : propOk (K0 w.params) C name p f = true) (hA : Ok A (n + 2)) (ho : (K0 w.params).lookup f = some o) (hd : o.data = .func (fdOf o)) (hb : (fdOf o).body = .stmts body)
    (hok : okFn (K0 w.params) (fdOf o) ["self"] = true) (hbind : bindArgs (fdOf o) ⟨[.ref x], []⟩ = pure [(("self" : Str), Value.ref x)]) (hh : handedIn v = true)
    (walk : ∀ A' L s' E' (Q : Flow → Shared → Prop), EnvOk (callEnv (fdOf o) L f) L → St w O I ((L, .ns fun y => [(("self" : Str), Value.ref x)].reverse.lookup y) :: ms) s' → (∀ s'', St w O I ((L, .ns fun y => [(("self" : Str), Value.ref x)].reverse.lookup y) :: ms) s'' → Q (.ret v) s'') →
      wpAny (model PG w) A' (execs body (callEnv (fdOf o) L f)) Q E' s')
    (h : ∀ s', St w O I ms s' → Q v s') : wpAny (model PG w) A (getAttr (.ref x) name expr) Q E s := by
  simp only [propOk, Bool.and_eq_true, beq_iff_eq] at e
  obtain ⟨⟨⟨⟨⟨e1, e2⟩, e3⟩, e4⟩, e5⟩, e6⟩ := e
  obtain ⟨dx, od, J, hl⟩ := (H.at S).inst
  split at e6
  case h_2 => cases e6
  rename_i g rest hrec
  have e6 : g = f := by simpa using e6
  subst e6
  refine get_bind S.kin J (plainGet_of e1).1 (findObj_data (by obtain ⟨cd, hc, _⟩ := any_some e2; rw [hc]; rfl) e3 e4 e5) (plainGet_of e1).2 (wpAny_call (prop_get (s := { s with toks := s.toks + 1 }) S.kin hrec ?_))
  have S := S.toks (t := s.toks + 1)
  refine enter (n := n) (Q := fun v s' => wpAny (model PG w) A (handedOut v) Q E s') (E := fun e s' => wpAny (model PG w) A (noteIf true (.ref x) (.str name s.toks) e) (fun _ s'' => E e s'') E s') (binds := [("self", .ref x)]) S hA.in1 ho hd hb hok (.of_eq hbind) fun A' L s' E' hA' V S => ?_
  exact walk _ _ _ _ _ V S fun s'' S => handed_on hh (h _ S.tail)
theorem lk88 (P : Params) : (K0 P).lookup 88 = some (ko88 P) := by kernel_rfl
theorem lk96 (P : Params) : (K0 P).lookup 96 = some (ko96 P) := by kernel_rfl
noncomputable abbrev e88 (w : World) (L : Addr) : Env := callEnv (fdOf (ko88 w.params)) L 88
noncomputable abbrev e96 (w : World) (L : Addr) : Env := callEnv (fdOf (ko96 w.params)) L 96
theorem firstTok {n : Nat} {v : Value} (hA : Ok A (n + 2)) (S : St w O I ms s) (H : IHI I x C m) (e : propOk (K0 w.params) C "first_token" 89 88 = true) (e2 : attrOk (K0 w.params) C "_first_token" = true) (hv : m "_first_token" = some v) (hh : handedIn v = true) (h : ∀ s', St w O I ms s' → Q v s') :
    wpAny (model PG w) A (getAttr (.ref x) "first_token" expr) Q E s := by
  refine getProp S H e hA (lk88 _) rfl rfl (by kernel_rfl) (by kernel_rfl) hh (fun A' L s' E' Q V S q => ?_) h
  change wpAny _ A' (execs (fnB (stB 5 2)) (e88 w L)) _ _ _
  refine wpAny_execs_cons ?_
  with_reducible refine wpAny_Return_some ?_
  ((with_reducible show wpAny _ _ (eval (.Attribute _ _ _) _) _ _ _); refine Attribute_any_ ?_)
  ((with_reducible show wpAny _ _ (eval (.Name _ _) _) _ _ _); refine nL (by assumption) (by assumption) (by kernel_rfl) (by first | with_unfolding_all rfl | with_unfolding_all assumption) ?_ (by decide +kernel))
  dsimp only
  refine getA (by assumption) (H.at (by assumption)) hv e2 hh ?_; intro _ _
  exact q _ (by assumption)
theorem lastTok {n : Nat} {v : Value} (hA : Ok A (n + 2)) (S : St w O I ms s) (H : IHI I x C m) (e : propOk (K0 w.params) C "last_token" 97 96 = true) (e2 : attrOk (K0 w.params) C "_last_token" = true) (hv : m "_last_token" = some v) (hh : handedIn v = true) (h : ∀ s', St w O I ms s' → Q v s') :
    wpAny (model PG w) A (getAttr (.ref x) "last_token" expr) Q E s := by
  refine getProp S H e hA (lk96 _) rfl rfl (by kernel_rfl) (by kernel_rfl) hh (fun A' L s' E' Q V S q => ?_) h
  change wpAny _ A' (execs (fnB (stB 5 3)) (e96 w L)) _ _ _
  refine wpAny_execs_cons ?_
  with_reducible refine wpAny_Return_some ?_
  ((with_reducible show wpAny _ _ (eval (.Attribute _ _ _) _) _ _ _); refine Attribute_any_ ?_)
  ((with_reducible show wpAny _ _ (eval (.Name _ _) _) _ _ _); refine nL (by assumption) (by assumption) (by kernel_rfl) (by first | with_unfolding_all rfl | with_unfolding_all assumption) ?_ (by decide +kernel))
  dsimp only
  refine getA (by assumption) (H.at (by assumption)) hv e2 hh ?_; intro _ _
  exact q _ (by assumption)
end
section
variable {w : World} {O : OsState} {A : Around} {E : Value → Shared → Prop} {s : Shared} {I : Im} {ms : Ms} {x : Str} {t : Tok} {Q : Value → Shared → Prop}
theorem keptSt : KeptByPush (St w O I ms) := fun _ _ _ S => S.ext (fun _ _ e => Heap.get?_push_of_some _ e) S.gens
theorem sliceNS {value slice : Expr} {j : Int} {uj : Tok} (S : St w O I ms s) (hsz : x.length ≤ 100000) (h : ∀ s' t', St w O I ms s' → Q (.str (Txt.slice x none (some j)) t') s')
    (hs : subscripted slice false (.str x t) (.ref s.heap.objs.size) = operate [.ref s.heap.objs.size, .str x t] (getItem (.str x t) (.ref s.heap.objs.size)) := by with_unfolding_all rfl)
    (ht : ∀ r, letTemporaryGo value (.str x t) r = pure () := by intro _; with_unfolding_all rfl) :
    wpAny (model PG w) A (subscriptTail value slice (.str x t) (.ref s.heap.objs.size)) Q E { s with heap := s.heap.push { cls := .type "slice", data := .fields #[.none, .int j uj, .none] } } :=
  tail_of_ItemOn (SBG.sliceItem_ns keptSt S h (by rw [sizeLine_eq]; (first | lia | omega))) hs ht
end
theorem lk28 (P : Params) : (K0 P).lookup 28 = some (ko28 P) := by kernel_rfl
noncomputable abbrev e28 (w : World) (L : Addr) : Env := callEnv (fdOf (ko28 w.params)) L 28
section
variable {w : World} {O : OsState} {A : Around} {E : Value → Shared → Prop} {s : Shared} {I : Im} {ms : Ms} {x : Str} {t : Tok} {Q : Value → Shared → Prop}
theorem peName {n : Nat} (hA : Ok A (n + 1)) (S : St w O I ms s) (hx : x.length ≤ 1000) (h2 : Txt.slice x none (some 2) ≠ ("__" : Str)) (q : ∀ s', St w O I ms s' → Q (.str x t) s') :
    codeAny (model PG w) A (.call (.ref 28) ⟨[.str x t], []⟩) (wants Q E) s := by
  refine enter (n := n) (binds := [("n", .str x t)]) S hA (lk28 _) rfl rfl (by kernel_rfl) (.of_eq (by kernel_rfl)) fun A' L s' E' hA' V S => ?_
  change wpAny _ A' (execs (fnB (stA 1)) (e28 w L)) _ _ _
  refine wpAny_execs_cons ?_
  with_reducible refine wpAny_If ?_
  refine wpAny_isTrue_BoolOp (wpAny_allTrue_Or_cons (wpAny_isTrue_Compare1 ?_))
  refine callTy (T := "type") (by assumption) V (by kernel_rfl) (bl5 _) bv5 (by decide +kernel) (by decide +kernel) ?_
  ((with_reducible show wpAny _ _ (spliced (backTo _ (starEach (_ :: _) _))) _ _ _); refine wpAny_items_cons ?_)
  ((with_reducible show wpAny _ _ (eval (.Name _ _) _) _ _ _); refine nL (by assumption) (by assumption) (by kernel_rfl) (by first | with_unfolding_all rfl | with_unfolding_all assumption) ?_ (by decide +kernel))
  ((with_reducible show wpAny _ _ (spliced (backTo _ (starEach [] _))) _ _ _); refine wpAny_items_nil ?_)
  refine call_type_of (typeIs_str _ _ _) (by decide +kernel) ?_
  ((with_reducible show wpAny _ _ (eval (.Name _ _) _) _ _ _); refine nB (by assumption) (by assumption) (by kernel_rfl) (by first | with_reducible exact bl1 _ | with_reducible exact bl2 _ | with_reducible exact bl3 _ | with_reducible exact bl4 _ | with_reducible exact bl5 _ | with_reducible exact bl6 _ | with_reducible exact bl7 _) (by first | with_reducible exact bv1 | with_reducible exact bv2 | with_reducible exact bv3 | with_reducible exact bv4 | with_reducible exact bv5 | with_reducible exact bv6 | with_reducible exact bv7) ?_ (by decide +kernel) (by decide +kernel))
  refine wpAny_isNot_self (by decide +kernel) ?_
  with_reducible refine wpAny_truthy_bool ?_
  refine wpAny_allTrue_Or_cons (wpAny_isTrue_Compare1 ?_)
  with_reducible refine Subscript_ ?_
  ((with_reducible show wpAny _ _ (eval (.Name _ _) _) _ _ _); refine nL (by assumption) (by assumption) (by kernel_rfl) (by first | with_unfolding_all rfl | with_unfolding_all assumption) ?_ (by decide +kernel))
  refine wpAny_Slice ?_
  rw [evalPart_none]
  refine wpAny_pure ?_
  rw [evalPart_some]
  refine cI S fun s₂ t₂ S => ?_
  refine wpAny_pure ?_
  refine sliceNS S (by (clear h2; (first | lia | omega))) fun s₃ t₃ S => ?_
  (with_reducible refine cS (by assumption) ?_; intro _ _ _)
  refine eq_str ?_
  rw [show (Txt.slice x none (some 2) == ("__" : Str)) = false from beq_false_of_ne h2]
  with_reducible refine wpAny_truthy_bool ?_
  refine wpAny_allTrue_Or_nil ?_
  rw [if_neg Bool.false_ne_true]
  with_reducible refine wpAny_execs_nil ?_
  with_reducible refine wpAny_execs_cons ?_
  with_reducible refine wpAny_Return_some ?_
  ((with_reducible show wpAny _ _ (eval (.Name _ _) _) _ _ _); refine nL (by assumption) (by assumption) (by kernel_rfl) (by first | with_unfolding_all rfl | with_unfolding_all assumption) ?_ (by decide +kernel))
  dsimp only
  exact q _ (St.tail (by assumption))
end

end
section
noncomputable def visM (wd : Int) (tw : Tok) (lv : Int) (t : Tok) : Str → Option Value := fun y => if y = "_level" then some (.int lv t) else if y = "_indent_size" then some (.int wd tw) else none
noncomputable abbrev vz (sv dv : Addr) (wd : Int) (tw : Tok) (lv : Int) (t : Tok) : Ms := [(sv, .ob (instObj 823 dv)), (dv, .dc (visM wd tw lv t) 2), (373, .tb)]
/-- a method of the visitor, called with a node, gives a text -/
noncomputable def VC (w : World) (O : OsState) (I : Im) (sv dv : Addr) (wd : Int) (tw : Tok) (n : Nat) (f : Addr) (nv : Value) (lv : Int) (out : Str) : Prop :=
  ∀ (A : Around) (E : Value → Shared → Prop) (s : Shared) (p : Ms) (t : Tok) (Q : Value → Shared → Prop), Ok A n → St w O I (vz sv dv wd tw lv t ++ p) s →
    (∀ s' t' u, St w O I (vz sv dv wd tw lv t' ++ p) s' → Q (.str out u) s') → codeAny (model PG w) A (.call (.ref f) ⟨[.ref sv, nv], []⟩) (wants Q E) s
/-- the name of a value's type -/
noncomputable def TN (w : World) (O : OsState) (I : Im) (nv : Value) (q : Str) : Prop :=
  ∀ (A : Around) (E : Value → Shared → Prop) (s : Shared) (ms : Ms) (Q : Value → Shared → Prop), St w O I ms s → (∀ s' t, St w O I ms s' → Q (.str q t) s') →
    wpAny (model PG w) A (call (.type "type") [nv]) (fun v s₁ => wpAny (model PG w) A (getAttr v "__name__" true) Q E s₁) E s
theorem callCall {w : World} {A : Around} {E : Value → Shared → Prop} {s : Shared} {env : Env} {f : Expr} {a args : List Expr} {k kws : List Keyword} {p pos : Pos} {Q : Value → Shared → Prop}
    (h : wpAny (model PG w) A (eval (.Call f a k p) env) (fun fv s₁ => wpAny (model PG w) A (callWith pos fv [] (backTo pos (starEach args env)) (backToKw pos (keywordEach kws env))) Q E s₁) E s)
    (he : eval (.Call (.Call f a k p) args kws pos) env = (do callWith pos (← eval (.Call f a k p) env) [] (backTo pos (starEach args env)) (backToKw pos (keywordEach kws env))) := by rfl) :
    wpAny (model PG w) A (eval (.Call (.Call f a k p) args kws pos) env) Q E s := by
  rw [he]; exact wpAny_bind h
section
variable {w : World} {O : OsState} {A : Around} {E : Value → Shared → Prop} {s : Shared} {I : Im} {ms : Ms} {x f b : Addr} {pos : Pos} {env : Env} {e : Expr} {rest : List Expr} {Q : Value → Shared → Prop}
/-- a call of a bound method -/
theorem callBound {i : Nat} (S : St w O I ms s) (hb : ms[i]? = some (b, .ob (methodObj (.ref f) (.ref x)))) (hf : fnIn (K0 w.params) f = true)
    (h : wpAny (model PG w) A (spliced (backTo pos (starEach (e :: rest) env))) (fun vs s₁ => (∃ I₁, ∃ ms₁ : Ms, ∃ i : Nat, St w O I₁ ms₁ s₁ ∧ ms₁[i]? = some (b, Cel.ob (methodObj (.ref f) (.ref x)))) ∧ codeAny (model PG w) A (.call (.ref f) ⟨.ref x :: vs, []⟩) (wants Q E) s₁) E s)
    (he : starEach (e :: rest) env = (false, eval e env) :: starEach rest env := by rfl) :
    wpAny (model PG w) A (callWith pos (.ref b) [] (backTo pos (starEach (e :: rest) env)) []) Q E s := by
  refine callWith_any (P := fun h => h.get? b = some (methodObj (.ref f) (.ref x)) ∧ (K0 w.params).In h) (fun h X => ?_) ?_
  · obtain ⟨k, _, L⟩ := keeps_M (M := model PG w) (self := .ref x) hf h X
    exact ⟨k, L⟩
  · rw [he] at h ⊢
    refine Calls.evalArgs_plain (wpAny_mono h (fun vs s₁ h₁ => ?_) fun _ _ y => y)
    obtain ⟨⟨I₁, ms₁, i, S₁, hi⟩, h₁⟩ := h₁
    have hg : s₁.heap.get? b = some (methodObj (.ref f) (.ref x)) := S₁.get hi
    exact ⟨⟨hg, S₁.kin⟩, wpAny_call (ks_codeAny_call_bound hg h₁)⟩
end
theorem lk383 (P : Params) : (K0 P).lookup 383 = some (ko383 P) := by kernel_rfl
noncomputable abbrev e383 (w : World) (L : Addr) : Env := callEnv (fdOf (ko383 w.params)) L 383
section
variable {w : World} {O : OsState} {I : Im} {sv dv : Addr} {wd : Int} {tw : Tok} {n : Nat} {f : Addr} {nv : Value} {lv : Int} {out q nm : Str}
theorem visit_spec (h : VC w O I sv dv wd tw n f nv lv out) (tn : TN w O I nv q) (hnm : ("visit_" : Str) ++ q = nm) (h2 : Txt.slice nm none (some 2) ≠ ("__" : Str)) (hl : nm.length ≤ 1000) (hl2 : q.length ≤ 1000) (hb : boundOk (K0 w.params) 823 nm f = true)
    (hf : fnIn (K0 w.params) f = true) (h1 : nm ≠ "_level") (h3 : nm ≠ "_indent_size") : VC w O I sv dv wd tw (n + 2) 383 nv lv out := by
  intro A E s p t Q hA S fin
  refine enter (n := n + 1) (binds := [("self", .ref sv), ("node", nv)]) S hA (lk383 _) rfl rfl (by kernel_rfl) (.of_eq (by kernel_rfl)) fun A' L s' E' hA' V S => ?_
  change wpAny _ A' (execs (fnB (stB 20 2)) (e383 w L)) _ _ _
  refine wpAny_execs_cons ?_
  refine wpAny_Return_some ?_
  refine callCall ?_
  refine callB (id := "getattr") S V (by kernel_rfl) (bl6 _) bv6 (by decide +kernel) (by decide +kernel) ?_
  ((with_reducible show wpAny _ _ (spliced (backTo _ (starEach (_ :: _) _))) _ _ _); refine wpAny_items_cons ?_)
  ((with_reducible show wpAny _ _ (eval (.Name _ _) _) _ _ _); refine nL (by assumption) (by assumption) (by kernel_rfl) (by first | with_unfolding_all rfl | with_unfolding_all assumption) ?_ (by decide +kernel))
  ((with_reducible show wpAny _ _ (spliced (backTo _ (starEach (_ :: _) _))) _ _ _); refine wpAny_items_cons ?_)
  dsimp only
  refine callF (v := .ref 28) (by assumption) V (by kernel_rfl) (gl11 _) (by kernel_rfl) (by decide +kernel) ?_
  ((with_reducible show wpAny _ _ (spliced (backTo _ (starEach (_ :: _) _))) _ _ _); refine wpAny_items_cons ?_)
  with_reducible refine wpAny_BinOp ?_
  (with_reducible refine cS (by assumption) ?_; intro _ _ _)
  ((with_reducible show wpAny _ _ (eval (.Attribute _ _ _) _) _ _ _); refine Attribute_any_ ?_)
  refine callTy (T := "type") (by assumption) V (by kernel_rfl) (bl5 _) bv5 (by decide +kernel) (by decide +kernel) ?_
  ((with_reducible show wpAny _ _ (spliced (backTo _ (starEach (_ :: _) _))) _ _ _); refine wpAny_items_cons ?_)
  ((with_reducible show wpAny _ _ (eval (.Name _ _) _) _ _ _); refine nL (by assumption) (by assumption) (by kernel_rfl) (by first | with_unfolding_all rfl | with_unfolding_all assumption) ?_ (by decide +kernel))
  ((with_reducible show wpAny _ _ (spliced (backTo _ (starEach [] _))) _ _ _); refine wpAny_items_nil ?_)
  rename_i S
  refine tn _ _ _ _ _ S fun s₂ t₂ S => ?_
  refine addS S (by rw [show ("visit_" : Str).length = 6 from by decide +kernel]; (clear h2 hl h1 h3; (first | lia | omega))) fun s₃ t₃ S => ?_
  rw [hnm]
  ((with_reducible show wpAny _ _ (spliced (backTo _ (starEach [] _))) _ _ _); refine wpAny_items_nil ?_)
  refine ⟨S.kin, wpAny_call (peName (n := n) hA' S hl h2 fun s₄ S => ?_)⟩
  ((with_reducible show wpAny _ _ (spliced (backTo _ (starEach [] _))) _ _ _); refine wpAny_items_nil ?_)
  refine getBound S (S.hi (i := 1) (j := 2) rfl rfl) ?_ hb fun s₅ b S => ?_
  · unfold visM; rw [if_neg h1, if_neg h3]
  have S := St.front (l₁ := [_]) S
  refine callBound (i := 1) S rfl hf ?_
  ((with_reducible show wpAny _ _ (spliced (backTo _ (starEach (_ :: _) _))) _ _ _); refine wpAny_items_cons ?_)
  ((with_reducible show wpAny _ _ (eval (.Name _ _) _) _ _ _); refine nL (by assumption) (by assumption) (by kernel_rfl) (by first | with_unfolding_all rfl | with_unfolding_all assumption) ?_ (by decide +kernel))
  ((with_reducible show wpAny _ _ (spliced (backTo _ (starEach [] _))) _ _ _); refine wpAny_items_nil ?_)
  refine ⟨⟨_, _, 1, S, rfl⟩, ?_⟩
  have S := St.mid [_, _] (vz sv dv wd tw lv t) S
  refine h _ _ _ _ _ _ (hA'.le (by (clear h2 hl hl2 h1 h3; (first | lia | omega)))) S fun s₆ t' u S => ?_
  have S := St.mid (vz sv dv wd tw lv t') [_, _] S
  exact fin _ t' u S.tail.tail
end

end
section
theorem lk376 (P : Params) : (K0 P).lookup 376 = some (ko376 P) := by kernel_rfl
noncomputable abbrev e376 (w : World) (L : Addr) : Env := callEnvC (fdOf (ko376 w.params)) L 376
/-- not of the class -/
noncomputable def NI (w : World) (O : OsState) (I : Im) (nv : Value) (C : Addr) : Prop :=
  ∀ (A : Around) (E : Value → Shared → Prop) (s : Shared) (ms : Ms) (Q : Value → Shared → Prop), St w O I ms s → (∀ s', St w O I ms s' → Q (.bool false) s') → wpAny (model PG w) A (call (.builtin "isinstance") [nv, .ref C]) Q E s
section
variable {w : World} {O : OsState} {I : Im} {sv dv : Addr} {wd : Int} {tw : Tok} {n : Nat} {nv : Value} {lv : Int} {out : Str}
theorem enterDo {A : Around} {E : Value → Shared → Prop} {s : Shared} {t : Tok} {p : Ms} {Q : Value → Shared → Prop} (h : VC w O I sv dv wd tw n 383 nv lv out) (hA : Ok A (n + 1)) (S : St w O I (vz sv dv wd tw lv t ++ p) s)
    (rest : ∀ A' L s' E' t' tu m, Ok A' n → EnvOk (e376 w L) L → (e376 w L).cells = [(("indent_prefix" : Str), L + 2), (("node" : Str), L + 1)] → m "self" = some (.ref sv) → m "output" = some (.str out tu) →
      St w O I ((L, .ns m) :: (L + 2, .ce none) :: (L + 1, .ce (some nv)) :: (vz sv dv wd tw lv t' ++ p)) s' → wpAny (model PG w) A' (execs ((fnB (stB 20 1)).drop 1) (e376 w L)) (fun fl s'' => Q (match fl with | .ret v => v | _ => .none) s'') E' s') :
    codeAny (model PG w) A (.call (.ref 376) ⟨[.ref sv, nv], []⟩) (wants Q E) s := by
  refine enterC (n := n) (binds := [("self", .ref sv), ("node", nv)]) (fun L => [("indent_prefix", L + 2), ("node", L + 1)]) ["indent_prefix", "node"] S hA (lk376 _) rfl rfl (by kernel_rfl) (by kernel_rfl) (fun L => by kernel_rfl) (fun L => rfl) (by decide +kernel)
    (fun y => if y = "node" then some nv else none) (fun y => if y = "self" then some (.ref sv) else none) (by kernel_rfl) (by kernel_rfl) fun A' L s' E' hA' V hc S => ?_
  change wpAny _ A' (execs (fnB (stB 20 1)) (e376 w L)) _ _ _
  have S : St w O I ((L, .ns fun y => if y = "self" then some (.ref sv) else none) :: (L + 2, .ce none) :: (L + 1, .ce (some nv)) :: (vz sv dv wd tw lv t ++ p)) s' := S
  refine wpAny_execs_cons ?_
  ((with_reducible show wpAny _ _ (exec (.Assign [.Name _ _] _ _) _) _ _ _); refine wpAny_Assign_Name ?_)
  ((with_reducible show wpAny _ _ (eval (.Call (.Attribute _ _ _) _ _ _) _) _ _ _); refine methodCall_KW ?_)
  ((with_reducible show wpAny _ _ (eval (.Name _ _) _) _ _ _); refine nL (by assumption) (by assumption) (by kernel_rfl) (by first | with_unfolding_all rfl | with_unfolding_all assumption) ?_ (by decide +kernel))
  dsimp only
  refine metA S (S.hi (i := 3) (j := 4) rfl rfl) (by rfl) (f := 383) (by kernel_rfl) ?_
  refine callWith_K (first := [.ref sv]) S.kin (by kernel_rfl) ?_
  refine wpAny_items_cons ?_
  refine nC (i := 2) S V.knd (by kernel_rfl) (by kernel_rfl) rfl ?_ (by decide +kernel)
  ((with_reducible show wpAny _ _ (spliced (backTo _ (starEach [] _))) _ _ _); refine wpAny_items_nil ?_)
  dsimp only
  refine ⟨S.kin, wpAny_call ?_⟩
  have S := St.mid [_, _, _] (vz sv dv wd tw lv t) S
  refine h _ _ _ _ _ _ hA' S fun s₆ t' u S => ?_
  have S := St.mid (vz sv dv wd tw lv t') [_, _, _] S
  refine sL S V (by kernel_rfl) fun s₇ S => ?_
  exact rest A' L _ E' t' u _ hA' V hc (by with_unfolding_all rfl) (by with_unfolding_all rfl) S
theorem doPlain (h : VC w O I sv dv wd tw n 383 nv lv out) (h1 : NI w O I nv 170) (h2 : NI w O I nv 124) : VC w O I sv dv wd tw (n + 1) 376 nv lv out := by
  intro A E s p t Q hA S fin
  refine enterDo h hA S fun A' L s' E' t' tu m hA' V hc m1 m2 S => ?_
  change wpAny _ A' (execs (_ :: _) (e376 w L)) _ _ _
  refine wpAny_execs_cons (wpAny_If ?_)
  refine wpAny_isTrue_BoolOp (wpAny_allTrue_And_cons (isTrue_plain ?_))
  refine callB (id := "isinstance") S V (by kernel_rfl) (bl4 _) bv4 (by decide +kernel) (by decide +kernel) ?_
  refine wpAny_items_cons ?_
  refine nC (i := 2) S V.knd (by kernel_rfl) (by kernel_rfl) rfl ?_ (by decide +kernel)
  ((with_reducible show wpAny _ _ (spliced (backTo _ (starEach (_ :: _) _))) _ _ _); refine wpAny_items_cons ?_)
  ((with_reducible show wpAny _ _ (eval (.Name _ _) _) _ _ _); refine nG (by assumption) (by assumption) (by kernel_rfl) (by first | with_reducible exact gl1 _ | with_reducible exact gl2 _ | with_reducible exact gl3 _ | with_reducible exact gl4 _ | with_reducible exact gl5 _ | with_reducible exact gl6 _ | with_reducible exact gl7 _ | with_reducible exact gl8 _ | with_reducible exact gl9 _ | with_reducible exact gl10 _ | with_reducible exact gl11 _ | with_reducible exact gl12 _ | with_reducible exact gl13 _ | with_reducible exact gl14 _ | with_reducible exact gl15 _ | with_reducible exact gl16 _ | with_reducible exact gl17 _) ?_ (by decide +kernel))
  ((with_reducible show wpAny _ _ (spliced (backTo _ (starEach [] _))) _ _ _); refine wpAny_items_nil ?_)
  refine h1 _ _ _ _ _ S fun s₂ S => ?_
  with_reducible refine wpAny_truthy_bool ?_
  rw [if_neg Bool.false_ne_true, if_neg Bool.false_ne_true]
  with_reducible refine wpAny_execs_nil ?_
  with_reducible refine wpAny_execs_cons ?_
  with_reducible refine wpAny_If ?_
  refine wpAny_isTrue_BoolOp (wpAny_allTrue_And_cons (isTrue_plain ?_))
  refine callB (id := "isinstance") S V (by kernel_rfl) (bl4 _) bv4 (by decide +kernel) (by decide +kernel) ?_
  refine wpAny_items_cons ?_
  refine nC (i := 2) S V.knd (by kernel_rfl) (by kernel_rfl) rfl ?_ (by decide +kernel)
  ((with_reducible show wpAny _ _ (spliced (backTo _ (starEach (_ :: _) _))) _ _ _); refine wpAny_items_cons ?_)
  ((with_reducible show wpAny _ _ (eval (.Name _ _) _) _ _ _); refine nG (by assumption) (by assumption) (by kernel_rfl) (by first | with_reducible exact gl1 _ | with_reducible exact gl2 _ | with_reducible exact gl3 _ | with_reducible exact gl4 _ | with_reducible exact gl5 _ | with_reducible exact gl6 _ | with_reducible exact gl7 _ | with_reducible exact gl8 _ | with_reducible exact gl9 _ | with_reducible exact gl10 _ | with_reducible exact gl11 _ | with_reducible exact gl12 _ | with_reducible exact gl13 _ | with_reducible exact gl14 _ | with_reducible exact gl15 _ | with_reducible exact gl16 _ | with_reducible exact gl17 _) ?_ (by decide +kernel))
  ((with_reducible show wpAny _ _ (spliced (backTo _ (starEach [] _))) _ _ _); refine wpAny_items_nil ?_)
  refine h2 _ _ _ _ _ S fun s₃ S => ?_
  with_reducible refine wpAny_truthy_bool ?_
  rw [if_neg Bool.false_ne_true, if_neg Bool.false_ne_true]
  with_reducible refine wpAny_execs_nil ?_
  with_reducible refine wpAny_execs_cons ?_
  with_reducible refine wpAny_Return_some ?_
  ((with_reducible show wpAny _ _ (eval (.Name _ _) _) _ _ _); refine nL (by assumption) (by assumption) (by kernel_rfl) (by first | with_unfolding_all rfl | with_unfolding_all assumption) ?_ (by decide +kernel))
  dsimp only
  exact fin _ _ _ (St.tail (St.tail (St.tail S)))
end

end
section
section
variable {w : World} {O : OsState} {I : Im} {A : Around} {E : Value → Shared → Prop} {s : Shared}
theorem forList {n : Nat} {L : Addr} {env : Env} {x : Str} {px pos : Pos} {iter : Expr} {body : List Stmt} {Q : Flow → Shared → Prop} (hA : Ok A n) (V : EnvOk env L) (hx : env.kindOf x = some .local) {l : Addr} {items : Array Value} (hl : ILst I l items)
    (Inv : Nat → (Str → Option Value) → Ms → Prop)
    (he : wpAny (model PG w) A (eval iter env) (fun v s₁ => ∃ m ms, v = .ref l ∧ St w O I ((L, .ns m) :: ms) s₁ ∧ Inv 0 m ms) E s)
    (turn : ∀ (j : Nat) (v : Value) m ms s it E', items[j]? = some v → Inv j m ms → St w O I ((L, .ns (upd m x v)) :: (it, .it l (j + 1)) :: ms) s →
      wpAny (model PG w) A (execs body env) (fun fl s₃ => fl = .next ∧ ∃ m' ms', St w O I ((L, .ns m') :: (it, .it l (j + 1)) :: ms') s₃ ∧ Inv (j + 1) m' ms') E' s)
    (fin : ∀ m ms s, Inv items.size m ms → St w O I ((L, .ns m) :: ms) s → Q .next s) (hs : ∀ x, foldedSetIterable iter env x = pure x := by intro _; rfl) :
    wpAny (model PG w) A (exec (.For (.Name x px) iter body [] pos) env) Q E s := by
  refine wpAny_For (wpAny_mono he (fun v s₁ h₁ => ?_) fun _ _ y => y) hs
  obtain ⟨m, ms, rfl, S, h0⟩ := h₁
  refine wpAny_pyIter_list (hl.lst S) ?_
  have S1 : St w O I ((L, .ns m) :: (s₁.heap.objs.size, .it l 0) :: ms) _ := (S.push (.it l 0) (x := { cls := .type "list_iterator", data := .fields #[.ref l, .int 0 0] }) ⟨_, Heap.get?_push_size _ rfl, rfl, rfl⟩).swap
  refine codeAny_forLoop (fun k s => ∃ (j : Nat) (m : Str → Option Value) (ms : Ms), k = items.size - j ∧ j ≤ items.size ∧ Inv j m ms ∧ St w O I ((L, .ns m) :: (s₁.heap.objs.size, .it l j) :: ms) s) ?_ items.size ⟨0, m, ms, rfl, Nat.zero_le _, h0, S1⟩
  rintro k s₂ ⟨j, m, ms, rfl, hj, hi, S⟩
  rcases Nat.lt_or_ge j items.size with hlt | hge
  · refine wpAny_pyNext_list_item (S.get (i := 1) rfl) (hl.lst S) (x := items[j]) (by simp [hlt]) fun h' hit hs => ?_
    dsimp only
    have S2 : St w O I ((L, .ns m) :: (s₁.heap.objs.size, .it l (j + 1)) :: ms) { s₂ with heap := h' } := S.set (i := 1) rfl (fun b hb o e => (hs.2 b hb).trans e) hit S.gens
    refine wpAny_assign_Name (sL S2 V hx fun s₃ S3 => ?_)
    refine wpAny_mono (turn j items[j] m ms s₃ _ _ (by simp [hlt]) hi S3) (fun fl s₄ h₄ => ?_) fun _ _ y => y
    obtain ⟨rfl, m', ms', S4, h4⟩ := h₄
    exact ⟨items.size - (j + 1), by (clear hj; (first | lia | omega)), j + 1, m', ms', rfl, hlt, h4, S4⟩
  · have : j = items.size := by (first | lia | omega)
    subst this
    refine wpAny_pyNext_list_end hA.h (S.get (i := 1) rfl) (hl.lst S) (by simp) fun h' hs => ?_
    dsimp only
    refine wpAny_execs_nil (fin m ms _ hi ?_)
    exact (St.drop0 (s' := { s₂ with heap := h' }) S.swap (fun b o hb e => hs b o hb e) S.gens)
theorem truthyL {l : Addr} {items : Array Value} {Q : Bool → Shared → Prop} {ms : Ms} (S : St w O I ms s) (hl : s.heap.IsList l items) (hz : items.size ≤ 100000) (h : ∀ s', St w O I ms s' → Q (decide (items.size ≠ 0)) s') : wpAny (model PG w) A (truthy (.ref l)) Q E s := by
  refine wpAny_truthy_list hl (by (first | lia | omega)) ?_
  have e : (!items.isEmpty) = decide (items.size ≠ 0) := by
    by_cases z : items.size = 0
    · rw [Array.eq_empty_of_size_eq_zero z]; rfl
    · rw [decide_eq_true z, Bool.not_eq_true', Array.isEmpty_eq_false_iff]; intro e; rw [e] at z; exact z rfl
  exact e ▸ h _ S.toks
end
section
variable {w : World} {O : OsState} {I : Im} {sv dv : Addr} {wd : Int} {tw : Tok} {n : Nat} {lv : Int} {out : Str} {x C cl : Addr} {mm : Str → Option Value} {cv : Array Value}
/-- what do_visit needs of a node's class -/
noncomputable def kindOk (K : Frag) (C : Addr) (mm : Str → Option Value) : Prop := (isIn K (.ref C) 170 = true ∧ mm "wrapped" = some (.bool false) ∧ attrOk K C "wrapped" = true ∨ isiNo K C 170 = true) ∧ isIn K (.ref C) 124 = true ∧ attrOk K C "comments" = true
theorem doHead {A' : Around} {L : Addr} {s' : Shared} {E' : Value → Shared → Prop} {m : Str → Option Value} {ms : Ms} {Q : Flow → Shared → Prop} (_hA : Ok A' n) (V : EnvOk (e376 w L) L) (H : IHI I x C mm) (hk : kindOk (K0 w.params) C mm) (hc : mm "comments" = some (.ref cl)) (hl : ILst I cl cv) (hz : cv.size ≤ 1000)
    (S : St w O I ((L, .ns m) :: (L + 2, .ce none) :: (L + 1, .ce (some (.ref x))) :: ms) s')
    (h : ∀ s', St w O I ((L, .ns m) :: (L + 2, .ce none) :: (L + 1, .ce (some (.ref x))) :: ms) s' → if cv.size = 0 then wpAny (model PG w) A' (execs ((fnB (stB 20 1)).drop 3) (e376 w L)) Q E' s'
      else wpAny (model PG w) A' (execs (match (fnB (stB 20 1))[2]? with | some (Stmt.If _ b _ _) => b | _ => []) (e376 w L)) (fun f s' => match f with | .next => wpAny (model PG w) A' (execs ((fnB (stB 20 1)).drop 3) (e376 w L)) Q E' s' | f => Q f s') E' s') :
    wpAny (model PG w) A' (execs ((fnB (stB 20 1)).drop 1) (e376 w L)) Q E' s' := by
  obtain ⟨hE, hN, hca⟩ := hk
  change wpAny _ A' (execs (_ :: _) (e376 w L)) _ _ _
  have second : ∀ s', St w O I ((L, .ns m) :: (L + 2, .ce none) :: (L + 1, .ce (some (.ref x))) :: ms) s' → wpAny (model PG w) A' (execs ((fnB (stB 20 1)).drop 2) (e376 w L)) Q E' s' := by
    intro s' S
    change wpAny _ A' (execs (_ :: _) (e376 w L)) _ _ _
    refine wpAny_execs_cons (wpAny_If ?_)
    refine wpAny_isTrue_BoolOp (wpAny_allTrue_And_cons (isTrue_plain ?_))
    refine callB (id := "isinstance") S V (by kernel_rfl) (bl4 _) bv4 (by decide +kernel) (by decide +kernel) ?_
    refine wpAny_items_cons ?_
    refine nC (i := 2) S V.knd (by kernel_rfl) (by kernel_rfl) rfl ?_ (by decide +kernel)
    ((with_reducible show wpAny _ _ (spliced (backTo _ (starEach (_ :: _) _))) _ _ _); refine wpAny_items_cons ?_)
    ((with_reducible show wpAny _ _ (eval (.Name _ _) _) _ _ _); refine nG (by assumption) (by assumption) (by kernel_rfl) (by first | with_reducible exact gl1 _ | with_reducible exact gl2 _ | with_reducible exact gl3 _ | with_reducible exact gl4 _ | with_reducible exact gl5 _ | with_reducible exact gl6 _ | with_reducible exact gl7 _ | with_reducible exact gl8 _ | with_reducible exact gl9 _ | with_reducible exact gl10 _ | with_reducible exact gl11 _ | with_reducible exact gl12 _ | with_reducible exact gl13 _ | with_reducible exact gl14 _ | with_reducible exact gl15 _ | with_reducible exact gl16 _ | with_reducible exact gl17 _) ?_ (by decide +kernel))
    ((with_reducible show wpAny _ _ (spliced (backTo _ (starEach [] _))) _ _ _); refine wpAny_items_nil ?_)
    refine isiT S (H.at S) hN ?_
    with_reducible refine wpAny_truthy_bool ?_
    rw [if_pos rfl]
    refine wpAny_allTrue_And_cons ?_
    refine isTrue_plain ?_
    refine Attribute_any_ ?_
    refine nC (i := 2) S V.knd (by kernel_rfl) (by kernel_rfl) rfl ?_ (by decide +kernel)
    refine getA S (H.at S) hc hca rfl fun s₂ S => ?_
    refine truthyL S (hl.lst S) (by (clear hE; (first | lia | omega))) fun s₃ S => ?_
    have := h _ S
    by_cases z : cv.size = 0
    · rw [if_pos z] at this
      rw [decide_eq_false (fun q => q z), if_neg Bool.false_ne_true, if_neg Bool.false_ne_true]
      exact wpAny_execs_nil this
    · rw [if_neg z] at this
      rw [decide_eq_true z, if_pos rfl]
      refine wpAny_allTrue_And_nil ?_
      rw [if_pos rfl]
      exact this
  refine wpAny_execs_cons (wpAny_If ?_)
  refine wpAny_isTrue_BoolOp (wpAny_allTrue_And_cons (isTrue_plain ?_))
  refine callB (id := "isinstance") S V (by kernel_rfl) (bl4 _) bv4 (by decide +kernel) (by decide +kernel) ?_
  refine wpAny_items_cons ?_
  refine nC (i := 2) S V.knd (by kernel_rfl) (by kernel_rfl) rfl ?_ (by decide +kernel)
  ((with_reducible show wpAny _ _ (spliced (backTo _ (starEach (_ :: _) _))) _ _ _); refine wpAny_items_cons ?_)
  ((with_reducible show wpAny _ _ (eval (.Name _ _) _) _ _ _); refine nG (by assumption) (by assumption) (by kernel_rfl) (by first | with_reducible exact gl1 _ | with_reducible exact gl2 _ | with_reducible exact gl3 _ | with_reducible exact gl4 _ | with_reducible exact gl5 _ | with_reducible exact gl6 _ | with_reducible exact gl7 _ | with_reducible exact gl8 _ | with_reducible exact gl9 _ | with_reducible exact gl10 _ | with_reducible exact gl11 _ | with_reducible exact gl12 _ | with_reducible exact gl13 _ | with_reducible exact gl14 _ | with_reducible exact gl15 _ | with_reducible exact gl16 _ | with_reducible exact gl17 _) ?_ (by decide +kernel))
  ((with_reducible show wpAny _ _ (spliced (backTo _ (starEach [] _))) _ _ _); refine wpAny_items_nil ?_)
  rcases hE with ⟨e1, e2, e3⟩ | e1
  · refine isiT S (H.at S) e1 ?_
    with_reducible refine wpAny_truthy_bool ?_
    rw [if_pos rfl]
    refine wpAny_allTrue_And_cons (isTrue_plain ?_)
    refine Attribute_any_ ?_
    refine nC (i := 2) S V.knd (by kernel_rfl) (by kernel_rfl) rfl ?_ (by decide +kernel)
    refine getA S (H.at S) e2 e3 rfl fun s₂ S => ?_
    refine wpAny_truthy_bool ?_
    rw [if_neg Bool.false_ne_true, if_neg Bool.false_ne_true]
    exact wpAny_execs_nil (second _ S)
  · refine isiF S (H.at S) e1 fun s₂ S => ?_
    with_reducible refine wpAny_truthy_bool ?_
    rw [if_neg Bool.false_ne_true, if_neg Bool.false_ne_true]
    exact wpAny_execs_nil (second _ S)
/-- a node without remarks -/
theorem doBare (h : VC w O I sv dv wd tw n 383 (.ref x) lv out) (H : IHI I x C mm) (hk : kindOk (K0 w.params) C mm) (hc : mm "comments" = some (.ref cl)) (hl : ILst I cl #[]) : VC w O I sv dv wd tw (n + 1) 376 (.ref x) lv out := by
  intro A E s p t Q hA S fin
  refine enterDo h hA S fun A' L s' E' t' tu m hA' V hc' m1 m2 S => ?_
  refine doHead (m := m) (n := n) hA' V H hk hc hl (by decide) S fun s₂ S => ?_
  rw [if_pos (show (#[] : Array Value).size = 0 from rfl)]
  change wpAny _ A' (execs [_] (e376 w L)) _ _ _
  refine wpAny_execs_cons ?_
  with_reducible refine wpAny_Return_some ?_
  ((with_reducible show wpAny _ _ (eval (.Name _ _) _) _ _ _); refine nL (by assumption) (by assumption) (by kernel_rfl) (by first | with_unfolding_all rfl | with_unfolding_all assumption) ?_ (by decide +kernel))
  dsimp only
  exact fin _ _ _ (St.tail (St.tail (St.tail S)))
end

end
section
noncomputable def bodyD : List Stmt := match (fnB (stB 20 1))[2]? with | some (Stmt.If _ b _ _) => b | _ => []
noncomputable def forD : Stmt := bodyD.getD 2 (.Pass ⟨0, 0, 0, 0⟩)
noncomputable def forB : Stmt → List Stmt | .For _ _ b _ _ => b | _ => []
noncomputable def ifT : Stmt → Expr | .If t _ _ _ => t | _ => .Constant .none 0 ⟨0, 0, 0, 0⟩
/-- what do_visit needs of a node with remarks -/
structure NodeT (w : World) (I : Im) (x C : Addr) (mm : Str → Option Value) (li ll : Int) : Prop where
  h : IHI I x C mm
  k : kindOk (K0 w.params) C mm
  p1 : propOk (K0 w.params) C "first_token" 89 88 = true
  p2 : propOk (K0 w.params) C "last_token" 97 96 = true
  a1 : attrOk (K0 w.params) C "_first_token" = true
  a2 : attrOk (K0 w.params) C "_last_token" = true
  f : ∃ v fi fl, mm "_first_token" = some v ∧ ITok I v fi fl
  l : ∃ v, mm "_last_token" = some v ∧ ITok I v li ll
section
variable {w : World} {O : OsState} {I : Im} {A : Around} {E : Value → Shared → Prop} {s : Shared} {n : Nat} {L x C : Addr} {mm m : Str → Option Value} {li ll : Int} {ms : Ms} {v : Value} {c : Com} {env : Env} {pos : Pos}
theorem tokGet {ix ln : Int} {expr : Bool} {Q : Value → Shared → Prop} (S : St w O I ms s) (T : ITok I v ix ln) (h : ∀ s' t, St w O I ms s' → Q (.int ix t) s') : wpAny (model PG w) A (getAttr v "tokenIndex" expr) Q E s := by
  obtain ⟨t, a, b, c, d, rfl, H⟩ := T
  exact getA S (H.at S) (by rfl) (by kernel_rfl) rfl fun s' S => h s' _ S
theorem tokLine {ix ln : Int} {expr : Bool} {Q : Value → Shared → Prop} (S : St w O I ms s) (T : ITok I v ix ln) (h : ∀ s' t, St w O I ms s' → Q (.int ln t) s') : wpAny (model PG w) A (getAttr v "line" expr) Q E s := by
  obtain ⟨t, a, b, c, d, rfl, H⟩ := T
  exact getA S (H.at S) (by rfl) (by kernel_rfl) rfl fun s' S => h s' _ S
theorem comTok {expr : Bool} {Q : Value → Shared → Prop} (hA : Ok A (n + 2)) (S : St w O I ms s) (T : ICom I v c) (h : ∀ s' f, ITok I f c.2.1 c.2.2 → St w O I ms s' → Q f s') : wpAny (model PG w) A (getAttr v "first_token" expr) Q E s := by
  obtain ⟨x, m, ft, t, rfl, H, h1, h2, T⟩ := T
  have hh : handedIn ft = true := by obtain ⟨_, _, _, _, _, rfl, _⟩ := T; rfl
  exact firstTok hA S H (by kernel_rfl) (by kernel_rfl) h2 hh fun s' S => h _ _ T S
theorem comText {expr : Bool} {Q : Value → Shared → Prop} (S : St w O I ms s) (T : ICom I v c) (h : ∀ s' t, St w O I ms s' → Q (.str c.1 t) s') : wpAny (model PG w) A (getAttr v "s" expr) Q E s := by
  obtain ⟨x, m, ft, t, rfl, H, h1, h2, T⟩ := T
  exact getA S (H.at S) h1 (by kernel_rfl) rfl fun s' S => h s' _ S
theorem nodeLast {expr : Bool} {Q : Value → Shared → Prop} (hA : Ok A (n + 2)) (S : St w O I ms s) (N : NodeT w I x C mm li ll) (h : ∀ s' f, ITok I f li ll → St w O I ms s' → Q f s') : wpAny (model PG w) A (getAttr (.ref x) "last_token" expr) Q E s := by
  obtain ⟨f, h2, T⟩ := N.l
  have hh : handedIn f = true := by obtain ⟨_, _, _, _, _, rfl, _⟩ := T; rfl
  exact lastTok hA S N.h N.p2 N.a2 h2 hh fun s' S => h _ _ T S
theorem nodeFirst {expr : Bool} {Q : Value → Shared → Prop} (hA : Ok A (n + 2)) (S : St w O I ms s) (N : NodeT w I x C mm li ll) (h : ∀ s' f i j, ITok I f i j → St w O I ms s' → Q f s') : wpAny (model PG w) A (getAttr (.ref x) "first_token" expr) Q E s := by
  obtain ⟨f, i, j, h2, T⟩ := N.f
  have hh : handedIn f = true := by obtain ⟨_, _, _, _, _, rfl, _⟩ := T; rfl
  exact firstTok hA S N.h N.p1 N.a1 h2 hh fun s' S => h _ _ _ _ T S
theorem tokNot {ix ln : Int} {X Y : Prop} (T : ITok I v ix ln) (h : X) : if (!(v == .none)) = true then X else Y := by
  obtain ⟨t, a, b, c, d, rfl, H⟩ := T
  exact (if_pos (show (!(Value.ref t == .none)) = true from rfl)).symm ▸ h
theorem testD {i : Nat} {Q : Bool → Shared → Prop} (hA : Ok A (n + 2)) (V : EnvOk (e376 w L) L) (N : NodeT w I x C mm li ll) (T : ICom I v c) (hm : m "c" = some v) (S : St w O I ((L, .ns m) :: ms) s) (hi : ms[i]? = some (L + 1, .ce (some (.ref x)))) (h : ∀ s', St w O I ((L, .ns m) :: ms) s' → Q (decide (li < c.2.1)) s') :
    wpAny (model PG w) A (isTrue (ifT ((forB forD).getD 0 (.Pass ⟨0, 0, 0, 0⟩))) (e376 w L) (eval (ifT ((forB forD).getD 0 (.Pass ⟨0, 0, 0, 0⟩))) (e376 w L))) Q E s := by
  change wpAny _ _ (isTrue (.BoolOp _ (_ :: _ :: _ :: _ :: []) _) _ _) _ _ _
  refine wpAny_isTrue_BoolOp (wpAny_allTrue_And_cons (wpAny_isTrue_Compare1 ?_))
  refine Attribute_any_ ?_
  refine nC (i := i + 1) S V.knd (by kernel_rfl) (by kernel_rfl) hi ?_ (by decide +kernel)
  refine nodeFirst (n := n) hA S N fun s₁ f₁ i₁ j₁ T₁ S => ?_
  with_reducible refine cN ?_
  with_reducible refine isNot_none ?_
  with_reducible refine wpAny_truthy_bool ?_
  refine tokNot T₁ ?_
  refine wpAny_allTrue_And_cons (wpAny_isTrue_Compare1 ?_)
  refine Attribute_any_ ?_
  refine nC (i := i + 1) S V.knd (by kernel_rfl) (by kernel_rfl) hi ?_ (by decide +kernel)
  refine nodeLast (n := n) hA S N fun s₂ f₂ T₂ S => ?_
  with_reducible refine cN ?_
  with_reducible refine isNot_none ?_
  with_reducible refine wpAny_truthy_bool ?_
  refine tokNot T₂ ?_
  refine wpAny_allTrue_And_cons (wpAny_isTrue_Compare1 ?_)
  refine Attribute_any_ ?_
  refine nL S V (by kernel_rfl) hm ?_ (by decide +kernel)
  refine comTok (n := n) hA S T fun s₃ f₃ T₃ S => ?_
  with_reducible refine cN ?_
  with_reducible refine isNot_none ?_
  with_reducible refine wpAny_truthy_bool ?_
  refine tokNot T₃ ?_
  refine wpAny_allTrue_And_cons (wpAny_isTrue_Compare1 ?_)
  refine Attribute_any_ (Attribute_any_ ?_)
  refine nL S V (by kernel_rfl) hm ?_ (by decide +kernel)
  refine comTok (n := n) hA S T fun s₄ f₄ T₄ S => ?_
  refine tokGet S T₄ fun s₅ t₅ S => ?_
  refine Attribute_any_ (Attribute_any_ ?_)
  refine nC (i := i + 1) S V.knd (by kernel_rfl) (by kernel_rfl) hi ?_ (by decide +kernel)
  refine nodeLast (n := n) hA S N fun s₆ f₆ T₆ S => ?_
  refine tokGet S T₆ fun s₇ t₇ S => ?_
  refine gt_int ?_
  refine wpAny_truthy_bool ?_
  have := h _ S
  by_cases z : li < c.2.1
  · rw [decide_eq_true z] at this
    rw [decide_eq_true (show c.2.1 > li from z), if_pos rfl]
    exact wpAny_allTrue_And_nil this
  · rw [decide_eq_false z] at this
    rw [decide_eq_false (show ¬ c.2.1 > li from z), if_neg Bool.false_ne_true]
    exact this
end

end
section
noncomputable def leadC (li : Int) (cs : List Com) : List Com := cs.filter fun c => !decide (li < c.2.1)
noncomputable def trailC (li : Int) (cs : List Com) : List Com := cs.filter fun c => decide (li < c.2.1)
theorem IComs.one {J : Im} {v : Value} {c : Com} (h : ICom J v c) : IComs J [v] [c] := .cons h .nil
theorem IComs.get {J : Im} {vs : List Value} {cs : List Com} (h : IComs J vs cs) {j : Nat} {v : Value} (e : vs[j]? = some v) : ∃ c, cs[j]? = some c ∧ ICom J v c := by
  induction h generalizing j with
  | nil => cases e
  | cons a _ ih =>
    cases j with
    | zero => cases e; exact ⟨_, rfl, a⟩
    | succ j => exact ih e
section
variable {w : World} {O : OsState} {I : Im} {A : Around} {E : Value → Shared → Prop} {s : Shared} {n : Nat} {L x C la ta cl : Addr} {mm m : Str → Option Value} {li ll : Int} {ms : Ms} {cs : List Com} {cv : Array Value} {tu : Tok} {out : Str} {sv : Addr}
theorem loopD {i : Nat} {Q : Flow → Shared → Prop} (hA : Ok A (n + 2)) (V : EnvOk (e376 w L) L) (N : NodeT w I x C mm li ll) (hc : mm "comments" = some (.ref cl)) (hl : ILst I cl cv) (hcs : IComs I cv.toList cs) (hz : cv.size ≤ 1000)
    (S : St w O I ((L, .ns m) :: (la, .ls #[]) :: (ta, .ls #[]) :: ms) s) (hi : ms[i]? = some (L + 1, .ce (some (.ref x)))) (m1 : m "leading" = some (.ref la)) (m2 : m "trailing" = some (.ref ta)) (m3 : m "output" = some (.str out tu))
    (h : ∀ s' m' lv tv, St w O I ((L, .ns m') :: (la, .ls lv) :: (ta, .ls tv) :: ms) s' → m' "leading" = some (.ref la) → m' "trailing" = some (.ref ta) → m' "output" = some (.str out tu) → IComs I lv.toList (leadC li cs) → IComs I tv.toList (trailC li cs) → Q .next s') :
    wpAny (model PG w) A (exec forD (e376 w L)) Q E s := by
  change wpAny _ _ (exec (.For (.Name _ _) _ _ [] _) _) _ _ _
  refine forList (O := O) hA V (by kernel_rfl) hl (fun j m' ms' => ∃ lv tv, ms' = (la, .ls lv) :: (ta, .ls tv) :: ms ∧ (m' "leading" = some (.ref la) ∧ m' "trailing" = some (.ref ta) ∧ m' "output" = some (.str out tu)) ∧ IComs I lv.toList (leadC li (cs.take j)) ∧ IComs I tv.toList (trailC li (cs.take j)) ∧ lv.size ≤ j ∧ tv.size ≤ j) ?_ ?_ ?_
  · refine Attribute_any_ ?_
    refine nC (i := i + 3) S V.knd (by kernel_rfl) (by kernel_rfl) hi ?_ (by decide +kernel)
    refine getA S (N.h.at S) hc N.k.2.2 rfl fun s₂ S => ?_
    exact ⟨m, _, rfl, S, #[], #[], rfl, ⟨m1, m2, m3⟩, .nil, .nil, Nat.le_refl _, Nat.le_refl _⟩
  · rintro j v m' ms' s₂ it E₁ hv ⟨lv, tv, rfl, ⟨n1, n2, n3⟩, hlv, htv, z1, z2⟩ S
    have hj : j < cv.size := by obtain ⟨q, _⟩ := Array.getElem?_eq_some_iff.mp hv; exact q
    obtain ⟨c, hcj, T⟩ := hcs.get (j := j) (v := v) (by simpa using hv)
    have htk : cs.take (j + 1) = cs.take j ++ [c] := by rw [List.take_add_one, hcj]; rfl
    refine wpAny_execs_cons (wpAny_If ?_)
    refine testD (i := i + 3) (n := n) (li := li) (ll := ll) hA V N T (m := upd m' "c" v) (by with_unfolding_all rfl) S hi fun s₃ S => ?_
    by_cases z : li < c.2.1
    · rw [decide_eq_true z, if_pos rfl]
      refine wpAny_execs_cons ?_
      refine appendO (O := O) ?_
      refine nL S V (by kernel_rfl) (v := .ref ta) n2 ?_ (by decide +kernel)
      obtain ⟨nl, hlo⟩ := S.lo (i := 3) rfl
      refine ⟨ta, tv, nl, rfl, hlo, ?_⟩
      refine nL S V (by kernel_rfl) (v := v) (by with_unfolding_all rfl) ?_ (by decide +kernel)
      refine ⟨_, _, 3, tv, S, rfl, by (clear z1 z; (first | lia | omega)), fun s₄ S => ?_⟩
      refine wpAny_execs_nil (wpAny_execs_nil ⟨rfl, _, _, S, lv, tv.push v, rfl, ⟨n1, n2, n3⟩, ?_, ?_, by (clear hz z2 hj z; (first | lia | omega)), by rw [Array.size_push]; (clear hz z1 hj z; (first | lia | omega))⟩)
      · rw [htk]; unfold leadC at hlv ⊢; rw [List.filter_append, List.filter_cons, decide_eq_true z]; simpa using hlv
      · rw [htk]; unfold trailC at htv ⊢; rw [List.filter_append, List.filter_cons, decide_eq_true z, if_pos rfl, Array.toList_push]; exact htv.app (.one T)
    · rw [decide_eq_false z, if_neg Bool.false_ne_true]
      refine wpAny_execs_cons ?_
      refine appendO (O := O) ?_
      refine nL S V (by kernel_rfl) (v := .ref la) n1 ?_ (by decide +kernel)
      obtain ⟨nl, hlo⟩ := S.lo (i := 2) rfl
      refine ⟨la, lv, nl, rfl, hlo, ?_⟩
      refine nL S V (by kernel_rfl) (v := v) (by with_unfolding_all rfl) ?_ (by decide +kernel)
      refine ⟨_, _, 2, lv, S, rfl, by (clear z2 z; (first | lia | omega)), fun s₄ S => ?_⟩
      refine wpAny_execs_nil (wpAny_execs_nil ⟨rfl, _, _, S, lv.push v, tv, rfl, ⟨n1, n2, n3⟩, ?_, ?_, by rw [Array.size_push]; (clear hz z2 hj z; (first | lia | omega)), by (clear hz z1 hj z; (first | lia | omega))⟩)
      · rw [htk]; unfold leadC at hlv ⊢; rw [List.filter_append, List.filter_cons, decide_eq_false z, Bool.not_false, if_pos rfl, Array.toList_push]; exact hlv.app (.one T)
      · rw [htk]; unfold trailC at htv ⊢; rw [List.filter_append, List.filter_cons, decide_eq_false z]; simpa using htv
  · rintro m' ms' s₂ ⟨lv, tv, rfl, ⟨n1, n2, n3⟩, hlv, htv, _, _⟩ S
    have e : cs.take cv.size = cs := by rw [List.take_of_length_le]; rw [← hcs.len]; simp
    rw [e] at hlv htv
    exact h _ _ _ _ S n1 n2 n3 hlv htv
end

end
section
section
variable {w : World} {O : OsState} {I : Im} {A : Around} {E : Value → Shared → Prop} {s : Shared} {n : Nat} {L x C : Addr} {ms : Ms} {m : Str → Option Value} {name : Str} {v : Value} {env : Env}
theorem rawGet {expr : Bool} {Q : Value → Shared → Prop} (B : Base w I) (imm : ∀ a o, I a = some o → s.heap.get? a = some o) (H : IHI I x C m) (hv : m name = some v) (hC : attrOk (K0 w.params) C name = true) (hh : handedIn v = true) (h : Q v { s with toks := s.toks + 1 }) :
    wpAny (model PG w) A (getAttr (.ref x) name expr) Q E s := by
  simp only [attrOk, Bool.and_eq_true] at hC
  obtain ⟨⟨c1, c2⟩, c3⟩ := hC
  have X : (K0 w.params).In s.heap := fun a o e => imm a o (B.k a o e)
  obtain ⟨dx, es, n, e1, e2, D⟩ := H
  have H' : HI s.heap x C m := ⟨dx, es, n, imm _ _ e1, imm _ _ e2, D⟩
  obtain ⟨dx, od, J, hl⟩ := H'.inst
  cases ha : findIn (K0 w.params) (.ref C) name with
  | none => rw [ha] at c3; cases c3
  | some attr =>
    rw [ha] at c3
    exact get_value X J (plainGet_of c1).1 (findObj_own c2 ha c3 (by rw [hl, hv])) hh h
theorem joinI {i k : Nat} {sep : Str} {ts : Tok} {elt iter : Expr} {x : Str} {px gp : Pos} {scope : Scope} {cl : List (Str × Addr)} {items : Array Value} {texts : List Str} {l : Addr} {Q : Value → Shared → Prop} (hA : Ok A n) (V : EnvOk env L) (hcode : env.code = .ref 375)
    (hco : scope.isCoroutine = false) (hclos : closureFor scope env = pure cl) (hcell : scope.names.all (fun y => !isCell y.2) = true) (h0 : scope.names.lookup (".0" : Str) = some NameKind.local) (hx : scope.names.lookup x = some .local) (hkind : scope.kind = .function)
    (hsz : items.size = texts.length) (hz : items.size ≤ 100000) (hj : JoinOk sep texts = true) (hi : ms[i]? = some (373, .tb)) (hk : ms[k]? = some (l, .ls items))
    (hiter : wpAny (model PG w) A (eval iter env) (fun v s₁ => v = .ref l ∧ St w O I ms s₁) E s)
    (helt : ∀ (A' : Around) (E' : Value → Shared → Prop) (j : Nat) (v : Value) (s₂ : Shared) (m₂ : Str → Option Value) (C : Addr) (code : Value) (bi : Addr), items[j]? = some v → s₂.heap.Ns C m₂ → m₂ x = some v → Base w I → (∀ a o, I a = some o → s₂.heap.get? a = some o) → (∀ p ∈ ms, p.1 ≠ 373 → p.2.at s₂.heap p.1) →
        wpAny (model PG w) A' (eval elt (genEnv scope cl C code bi env)) (fun y s₃ => (∃ t u, texts[j]? = some u ∧ y = .str u t) ∧ Keeps s₂ s₃) E' s₂)
    (q : ∀ s' t', St w O I ms s' → Q (.str (Txt.join sep texts) t') s') (hs : ∀ x, genFold iter env x = pure x := by intro _; rfl) :
    wpAny (model PG w) A (eval (.GeneratorExp elt [⟨.Name x px, iter, [], 0⟩] scope gp) env) (fun g s₁ => wpAny (model PG w) A (call (.builtin "str.join") [.str sep ts, g]) Q E s₁) E s := by
  refine joinGx (O := O) (i := i) hA V hcode hco hclos hcell h0 hx hkind hsz hz hj (wpAny_mono hiter (fun v s₁ h₁ => ?_) fun _ _ y => y) hs q
  obtain ⟨rfl, S⟩ := h₁
  have hl3 : l ≠ 373 := by
    rintro rfl
    obtain ⟨n, e⟩ := S.get hk
    obtain ⟨ps, e', _⟩ := S.get hi
    rw [show s₁.heap.get? 373 = _ from e] at e'
    cases e'
  refine ⟨l, rfl, S.gl hk, hl3, S, hi, fun b hb => S.lt hb, fun A' E' j v s₂ m₂ C code bi hA' hv hn hm hkeep => ?_⟩
  have hI3 : I 373 = none := S.off (373, .tb) (List.mem_of_getElem? hi)
  refine helt A' E' j v s₂ m₂ C code bi hv hn hm S.base (fun a o e => hkeep a o (fun z => ?_) (S.imm a o e)) fun p hp hne => (S.mu p hp).keep fun o e => hkeep _ _ hne e
  rw [z, hI3] at e; cases e
theorem Keeps.tok (s : Shared) (t : Nat) : Keeps s { s with toks := t } := ⟨s.heap, t, rfl, fun _ _ e => e⟩
/-- the text of a remark, inside a generator -/
theorem eltS {scope : Scope} {cl : List (Str × Addr)} {code : Value} {bi : Addr} {x : Str} {pa pe : Pos} {c : Com} {m₂ : Str → Option Value} {s₂ : Shared} {Q : Value → Shared → Prop} (hkind : scope.kind = .function) (hx : scope.names.lookup x = some .local) (hd : (x == ("__debug__" : Str)) = false)
    (hn : s₂.heap.Ns C m₂) (hm : m₂ x = some v) (B : Base w I) (imm : ∀ a o, I a = some o → s₂.heap.get? a = some o) (T : ICom I v c) (h : ∀ t k, Q (.str c.1 t) { s₂ with toks := k }) :
    wpAny (model PG w) A (eval (.Attribute (.Name x pa) "s" pe) (genEnv scope cl C code bi env)) Q E s₂ := by
  refine Attribute_any_ ?_
  refine wpAny_Name (wpAny_loadName_local hkind hx hn hm ?_) hd
  obtain ⟨x, m, ft, t, rfl, H, h1, h2, T⟩ := T
  exact rawGet B imm H h1 (by kernel_rfl) rfl (h _ _)
theorem joinCs {i k : Nat} {sep : Str} {ts : Tok} {iter : Expr} {x : Str} {px pa pe gp : Pos} {scope : Scope} {cl : List (Str × Addr)} {items : Array Value} {cs : List Com} {l : Addr} {Q : Value → Shared → Prop} (hA : Ok A n) (V : EnvOk env L) (hcode : env.code = .ref 375)
    (hco : scope.isCoroutine = false) (hclos : closureFor scope env = pure cl) (hcell : scope.names.all (fun y => !isCell y.2) = true) (h0 : scope.names.lookup (".0" : Str) = some NameKind.local) (hx : scope.names.lookup x = some .local) (hkind : scope.kind = .function) (hd : (x == ("__debug__" : Str)) = false)
    (hcs : IComs I items.toList cs) (hz : items.size ≤ 100000) (hj : JoinOk sep (cs.map (·.1)) = true) (hi : ms[i]? = some (373, .tb)) (hk : ms[k]? = some (l, .ls items))
    (hiter : wpAny (model PG w) A (eval iter env) (fun v s₁ => v = .ref l ∧ St w O I ms s₁) E s)
    (q : ∀ s' t', St w O I ms s' → Q (.str (Txt.join sep (cs.map (·.1))) t') s') (hs : ∀ x, genFold iter env x = pure x := by intro _; rfl) :
    wpAny (model PG w) A (eval (.GeneratorExp (.Attribute (.Name x pa) "s" pe) [⟨.Name x px, iter, [], 0⟩] scope gp) env) (fun g s₁ => wpAny (model PG w) A (call (.builtin "str.join") [.str sep ts, g]) Q E s₁) E s := by
  have hlen : items.size = (cs.map (·.1)).length := by rw [List.length_map, ← hcs.len]; simp
  refine joinI (O := O) hA V hcode hco hclos hcell h0 hx hkind hlen hz hj hi hk hiter (fun A' E' j v s₂ m₂ C code bi hv hn hm B imm _ => ?_) q hs
  obtain ⟨c, hc, T⟩ := hcs.get (j := j) (v := v) (by simpa using hv)
  exact eltS hkind hx hd hn hm B imm T fun t k => ⟨⟨t, c.1, by rw [List.getElem?_map, hc]; rfl, rfl⟩, Keeps.tok _ _⟩
/-- a text put before each remark's text -/
theorem joinPs (S : St w O I ms s) {i k j' : Nat} {sep pre : Str} {ts tp : Tok} {iter : Expr} {x y : Str} {px pa pe py pb gp : Pos} {scope : Scope} {cl : List (Str × Addr)} {items : Array Value} {cs : List Com} {l c' : Addr} {Q : Value → Shared → Prop} (hA : Ok A n) (V : EnvOk env L) (hcode : env.code = .ref 375)
    (hco : scope.isCoroutine = false) (hclos : closureFor scope env = pure cl) (hcell : scope.names.all (fun y => !isCell y.2) = true) (h0 : scope.names.lookup (".0" : Str) = some NameKind.local) (hx : scope.names.lookup x = some .local) (hkind : scope.kind = .function) (hd : (x == ("__debug__" : Str)) = false)
    (hy : scope.names.lookup y = some .free) (hcy : cl.lookup y = some c') (hyd : (y == ("__debug__" : Str)) = false) (hyc : (y == ("__classdict__" : Str)) = false)
    (hcs : IComs I items.toList cs) (hz : items.size ≤ 100000) (hp : pre.length ≤ 100000) (hcl : ∀ c ∈ cs, c.1.length ≤ 10000) (hj : JoinOk sep (cs.map fun c => pre ++ c.1) = true) (hi : ms[i]? = some (373, .tb)) (hk : ms[k]? = some (l, .ls items)) (hce : ms[j']? = some (c', .ce (some (.str pre tp))))
    (hiter : wpAny (model PG w) A (eval iter env) (fun v s₁ => v = .ref l ∧ St w O I ms s₁) E s)
    (q : ∀ s' t', St w O I ms s' → Q (.str (Txt.join sep (cs.map fun c => pre ++ c.1)) t') s') (hs : ∀ x, genFold iter env x = pure x := by intro _; rfl) :
    wpAny (model PG w) A (eval (.GeneratorExp (.BinOp (.Name y py) .Add (.Attribute (.Name x pa) "s" pe) pb) [⟨.Name x px, iter, [], 0⟩] scope gp) env) (fun g s₁ => wpAny (model PG w) A (call (.builtin "str.join") [.str sep ts, g]) Q E s₁) E s := by
  have hlen : items.size = (cs.map fun c => pre ++ c.1).length := by rw [List.length_map, ← hcs.len]; simp
  refine joinI (O := O) hA V hcode hco hclos hcell h0 hx hkind hlen hz hj hi hk (wpAny_mono hiter (fun v s₁ h₁ => ⟨h₁.1, h₁.2⟩) fun _ _ y => y) (fun A' E' j v s₂ m₂ C code bi hv hn hm B imm hcel => ?_) q hs
  obtain ⟨c, hc, T⟩ := hcs.get (j := j) (v := v) (by simpa using hv)
  have hc3 : c' ≠ 373 := by
    rintro rfl
    obtain ⟨o, e, e2⟩ := S.get hce
    obtain ⟨ps, e', _⟩ := S.get hi
    rw [e] at e'; cases e'; cases e2
  refine wpAny_BinOp ?_
  refine wpAny_Name (wpAny_loadName_free hkind hy hcy (hcel (c', .ce (some (.str pre tp))) (List.mem_of_getElem? hce) hc3) ?_ hyc) hyd
  refine eltS hkind hx hd hn hm B imm T fun t k => ?_
  have := hcl c (List.mem_of_getElem? hc)
  refine PyProof.Rows.add_str (fun t' k' => ?_) (by rw [sizeLine_eq]; (clear hz hlen hc3; (first | lia | omega)))
  exact ⟨⟨t', pre ++ c.1, by rw [List.getElem?_map, hc]; rfl, rfl⟩, Keeps.tok _ _⟩
end

end
section
noncomputable def out1 (ld : List Com) (o : Str) : Str := if ld = [] then o else (Txt.join ("\n" : Str) (ld.map (·.1)) ++ ("\n" : Str)) ++ o
theorem sum_le {α : Type} (f : α → Nat) {B : Nat} : ∀ l : List α, (∀ y ∈ l, f y ≤ B) → (l.map f).sum ≤ l.length * B
  | [], _ => Nat.zero_le _
  | a :: r, h => by
    have h1 := h a (.head _)
    have h2 := sum_le f r fun y hy => h y (.tail _ hy)
    rw [List.map_cons, List.sum_cons, List.length_cons, Nat.succ_mul]; (first | lia | omega)
theorem joinB {sep : Str} {ys : List Str} {B k : Nat} (h : ∀ y ∈ ys, y.length ≤ B) (hs : sep.length ≤ k) (hn : ys.length ≤ 100) (hb : B + k ≤ 160000) : JoinOk sep ys = true ∧ (Txt.join sep ys).length ≤ 100 * (B + k) := by
  have h1 : (ys.map (·.length)).sum ≤ ys.length * B := sum_le (fun x : Str => x.length) ys h
  have h2 : ys.length * sep.length ≤ ys.length * k := Nat.mul_le_mul_left _ hs
  have h3 : ys.length * B + ys.length * k = ys.length * (B + k) := (Nat.mul_add ..).symm
  have h4 : ys.length * (B + k) ≤ 100 * (B + k) := Nat.mul_le_mul_right _ hn
  have hw : (ys.map (·.length)).sum + ys.length * sep.length ≤ 16777216 := by (clear hs hn; (first | lia | omega))
  refine ⟨PyProof.Rows.joinOk_of hw, ?_⟩
  have h6 : (Txt.join sep ys).length ≤ (ys.map (·.length)).sum + ys.length * sep.length := by
    have := StrLaws.join_length_le sep ys
    first
      | exact this
      | (rw [← StrLaws.glued_eq_join] at this; exact this)
      | (unfold Txt.join; rw [glued_eq]; exact this)
  (clear hs hn hb hw; (first | lia | omega))
section
variable {w : World} {O : OsState} {I : Im} {A : Around} {E : Value → Shared → Prop} {s : Shared} {n : Nat} {L la : Addr} {m : Str → Option Value} {ms : Ms} {ld : List Com} {lv : Array Value} {tu : Tok} {out : Str}
theorem leadD {i : Nat} {Q : Flow → Shared → Prop} (hA : Ok A n) (V : EnvOk (e376 w L) L) (hcs : IComs I lv.toList ld) (hz : lv.size ≤ 100) (hb : ∀ c ∈ ld, c.1.length ≤ 100) (ho : out.length ≤ 50000)
    (S : St w O I ((L, .ns m) :: (la, .ls lv) :: ms) s) (hi : ms[i]? = some (373, .tb)) (m1 : m "leading" = some (.ref la)) (m2 : m "output" = some (.str out tu))
    (h : ∀ s' m' tu', St w O I ((L, .ns m') :: (la, .ls lv) :: ms) s' → m' "output" = some (.str (out1 ld out) tu') → (∀ y, y ≠ ("output" : Str) → m' y = m y) → Q .next s') :
    wpAny (model PG w) A (exec (bodyD.getD 3 (.Pass ⟨0, 0, 0, 0⟩)) (e376 w L)) Q E s := by
  change wpAny _ _ (exec (.If _ _ [] _) _) _ _ _
  have hlen : lv.size = ld.length := by rw [← hcs.len]; simp
  refine wpAny_If (isTrue_plain ?_)
  refine nL S V (by kernel_rfl) m1 ?_ (by decide +kernel)
  refine truthyL S (S.gl (i := 1) rfl) (by (clear ho; (first | lia | omega))) fun s₂ S => ?_
  by_cases z : ld = []
  · rw [decide_eq_false (by rw [hlen, z]; exact fun q => q rfl), if_neg Bool.false_ne_true]
    exact wpAny_execs_nil (h _ _ _ S (by unfold out1; rw [if_pos z]; exact m2) fun _ _ => rfl)
  · rw [decide_eq_true (by rw [hlen]; exact fun q => z (List.length_eq_zero_iff.mp q)), if_pos rfl]
    obtain ⟨j1, j2⟩ := joinB (sep := "\n") (ys := ld.map (·.1)) (B := 100) (k := 1) (fun y hy => by obtain ⟨c, hc, rfl⟩ := List.mem_map.mp hy; exact hb c hc) (by decide +kernel) (by rw [List.length_map]; (clear ho z; (first | lia | omega))) (by (clear hz ho hlen z; (first | lia | omega)))
    have e1 : ("\n" : Str).length = 1 := by decide +kernel
    refine wpAny_execs_cons (wpAny_Assign_Name ?_)
    refine wpAny_BinOp (wpAny_BinOp ?_)
    refine methodCall_KW ?_
    refine cS S fun s₃ t₃ S => ?_
    refine GM.join (strM (wpAny_items_cons ?_))
    refine wpAny_mono (joinCs (O := O) (i := i + 2) (k := 1) (sep := "\n") (ts := t₃) (cs := ld) (cl := []) (ms := (L, .ns m) :: (la, .ls lv) :: ms) hA V (by kernel_rfl) (by kernel_rfl) rfl (by kernel_rfl) (by kernel_rfl) (by kernel_rfl) (by kernel_rfl) (by decide +kernel) hcs (by (clear ho z j2 e1; (first | lia | omega))) j1 hi rfl ?_ ?_) (fun g s₄ h₄ => wpAny_items_nil h₄) fun _ _ y => y
    · exact nL S V (by kernel_rfl) m1 ⟨rfl, S⟩ (by decide +kernel)
    · intro s₄ t₄ S
      refine cS S fun s₅ t₅ S => ?_
      refine addS S (by (clear hz ho hlen z; (first | lia | omega))) fun s₆ t₆ S => ?_
      refine nL S V (by kernel_rfl) m2 ?_ (by decide +kernel)
      refine addS S (by rw [Str.length_append']; (clear hz hlen z; (first | lia | omega))) fun s₇ t₇ S => ?_
      refine sL S V (by kernel_rfl) fun s₈ S => ?_
      refine wpAny_execs_nil (h _ _ t₇ S ?_ ?_)
      · unfold out1; rw [if_neg z]; with_unfolding_all rfl
      · exact fun y hy => if_neg hy
end

end
section
noncomputable def inlC (ll : Int) (tr : List Com) : List Com := tr.filter fun c => decide (c.2.2 = ll)
noncomputable def aftC (ll : Int) (tr : List Com) : List Com := tr.filter fun c => !decide (c.2.2 = ll)
noncomputable def out2 (inl : List Com) (o : Str) : Str := if inl = [] then o else o ++ ((" " : Str) ++ Txt.join (" " : Str) (inl.map (·.1)))
noncomputable def lastL (o : Str) : Str := (Txt.rsplitMax o "\n" 1).getLastD ⟨#[]⟩
noncomputable def preL (l : Str) : Str := Txt.slice l none (some ((l.length : Int) - (Txt.lstripChars l " ").length))
noncomputable def out3 (af : List Com) (o : Str) : Str := if af = [] then o else o ++ (("\n" : Str) ++ Txt.join ("\n" : Str) (af.map fun c => preL (lastL o) ++ c.1))
noncomputable def ifB : Stmt → List Stmt | .If _ b _ _ => b | _ => []
noncomputable def trailB : List Stmt := ifB (bodyD.getD 4 (.Pass ⟨0, 0, 0, 0⟩))
section
variable {w : World} {O : OsState} {I : Im} {A : Around} {E : Value → Shared → Prop} {s : Shared} {n : Nat} {L la : Addr} {m : Str → Option Value} {ms : Ms} {ld : List Com} {lv : Array Value} {tu : Tok} {out : Str}
theorem inlD {i : Nat} {Q : Flow → Shared → Prop} (hA : Ok A n) (V : EnvOk (e376 w L) L) (hcs : IComs I lv.toList ld) (hz : lv.size ≤ 100) (hb : ∀ c ∈ ld, c.1.length ≤ 100) (ho : out.length ≤ 90000)
    (S : St w O I ((L, .ns m) :: (la, .ls lv) :: ms) s) (hi : ms[i]? = some (373, .tb)) (m1 : m "inline" = some (.ref la)) (m2 : m "output" = some (.str out tu))
    (h : ∀ s' m' tu', St w O I ((L, .ns m') :: (la, .ls lv) :: ms) s' → m' "output" = some (.str (out2 ld out) tu') → (∀ y, y ≠ ("output" : Str) → m' y = m y) → Q .next s') :
    wpAny (model PG w) A (exec (trailB.getD 2 (.Pass ⟨0, 0, 0, 0⟩)) (e376 w L)) Q E s := by
  change wpAny _ _ (exec (.If _ _ [] _) _) _ _ _
  have hlen : lv.size = ld.length := by rw [← hcs.len]; simp
  refine wpAny_If (isTrue_plain ?_)
  refine nL S V (by kernel_rfl) m1 ?_ (by decide +kernel)
  refine truthyL S (S.gl (i := 1) rfl) (by (clear ho; (first | lia | omega))) fun s₂ S => ?_
  by_cases z : ld = []
  · rw [decide_eq_false (by rw [hlen, z]; exact fun q => q rfl), if_neg Bool.false_ne_true]
    exact wpAny_execs_nil (h _ _ _ S (by unfold out2; rw [if_pos z]; exact m2) fun _ _ => rfl)
  · rw [decide_eq_true (by rw [hlen]; exact fun q => z (List.length_eq_zero_iff.mp q)), if_pos rfl]
    obtain ⟨j1, j2⟩ := joinB (sep := " ") (ys := ld.map (·.1)) (B := 100) (k := 1) (fun y hy => by obtain ⟨c, hc, rfl⟩ := List.mem_map.mp hy; exact hb c hc) (by decide +kernel) (by rw [List.length_map]; (clear ho z; (first | lia | omega))) (by (clear hz ho hlen z; (first | lia | omega)))
    have e1 : (" " : Str).length = 1 := by decide +kernel
    refine wpAny_execs_cons (wpAny_AugAssign_Name ?_)
    refine wpAny_loadName_local V.knd (by kernel_rfl) (V.loc.symm ▸ S.get (i := 0) rfl) m2 ?_
    refine wpAny_BinOp ?_
    refine cS S fun s₃ t₃ S => ?_
    refine methodCall_KW ?_
    refine cS S fun s₄ t₄ S => ?_
    refine GM.join (strM (wpAny_items_cons ?_))
    refine wpAny_mono (joinCs (O := O) (i := i + 2) (k := 1) (sep := " ") (ts := t₄) (cs := ld) (cl := []) (ms := (L, .ns m) :: (la, .ls lv) :: ms) hA V (by kernel_rfl) (by kernel_rfl) rfl (by kernel_rfl) (by kernel_rfl) (by kernel_rfl) (by kernel_rfl) (by decide +kernel) hcs (by (clear ho z j2 e1; (first | lia | omega))) j1 hi rfl ?_ ?_) (fun g s₄ h₄ => wpAny_items_nil h₄) fun _ _ y => y
    · exact nL S V (by kernel_rfl) m1 ⟨rfl, S⟩ (by decide +kernel)
    · intro s₅ t₅ S
      refine addS S (by (clear hz ho hlen z; (first | lia | omega))) fun s₆ t₆ S => ?_
      refine PyProof.Rows.iadd_str (fun t₇ k₇ => ?_) (by rw [sizeLine_eq, Str.length_append']; (clear hz hlen z; (first | lia | omega)))
      have S := S.toks (t := k₇)
      refine sL S V (by kernel_rfl) fun s₈ S => ?_
      refine wpAny_execs_nil (h _ _ t₇ S ?_ ?_)
      · unfold out2; rw [if_neg z]; with_unfolding_all rfl
      · exact fun y hy => if_neg hy
end

end
section
theorem rsplit_ne (x y : Str) (k : Int) : Txt.rsplitMax x y k ≠ [] := by
  unfold Txt.rsplitMax
  split
  · simp
  · split
    · simp
    · intro e
      have := length_partsBetween x (Builtin.Str.occurrencesFromRight x y (limitOf x k)) y.length
      rw [e] at this; simp at this
theorem rsplit_len {x y : Str} {k : Int} {a : Str} (h : a ∈ Txt.rsplitMax x y k) : a.length ≤ x.length := rpartMax_short h
theorem lastL_len (o : Str) : (lastL o).length ≤ o.length := by
  unfold lastL
  have := rsplit_ne o "\n" 1
  rw [List.getLastD_eq_getLast?, List.getLast?_eq_some_getLast this]
  exact rsplit_len (List.getLast_mem this)
section
variable {w : World} {O : OsState} {I : Im} {A : Around} {E : Value → Shared → Prop} {s : Shared} {n : Nat} {L la : Addr} {m : Str → Option Value} {ms : Ms} {ld : List Com} {lv : Array Value} {tu : Tok} {out : Str}
theorem aftD {i k : Nat} {Q : Flow → Shared → Prop} (hA : Ok A n) (V : EnvOk (e376 w L) L) (hcs : IComs I lv.toList ld) (hz : lv.size ≤ 100) (hb : ∀ c ∈ ld, c.1.length ≤ 100) (ho : out.length ≤ 90000)
    (S : St w O I ((L, .ns m) :: (la, .ls lv) :: ms) s) (hi : ms[i]? = some (373, .tb)) (hk : ms[k]? = some (L + 2, .ce none)) (hik : k ≠ i) (m1 : m "afterward" = some (.ref la)) (m2 : m "output" = some (.str out tu))
    (h : ∀ s' m' ms' tu', (ms' = ms ∨ ∃ v, ms' = ms.set k (L + 2, .ce v)) → St w O I ((L, .ns m') :: (la, .ls lv) :: ms') s' → m' "output" = some (.str (out3 ld out) tu') → Q .next s') :
    wpAny (model PG w) A (exec (trailB.getD 3 (.Pass ⟨0, 0, 0, 0⟩)) (e376 w L)) Q E s := by
  change wpAny _ _ (exec (.If _ _ [] _) _) _ _ _
  have hlen : lv.size = ld.length := by rw [← hcs.len]; simp
  refine wpAny_If (isTrue_plain ?_)
  refine nL S V (by kernel_rfl) m1 ?_ (by decide +kernel)
  refine truthyL S (S.gl (i := 1) rfl) (by (clear ho hik; (first | lia | omega))) fun s₂ S => ?_
  by_cases z : ld = []
  · rw [decide_eq_false (by rw [hlen, z]; exact fun q => q rfl), if_neg Bool.false_ne_true]
    exact wpAny_execs_nil (h _ _ _ _ (.inl rfl) S (by unfold out3; rw [if_pos z]; exact m2))
  · rw [decide_eq_true (by rw [hlen]; exact fun q => z (List.length_eq_zero_iff.mp q)), if_pos rfl]
    refine wpAny_execs_cons (wpAny_Assign_Name ?_)
    refine Subscript_ ?_
    refine methodCall_KW ?_
    refine nL S V (by kernel_rfl) m2 ?_ (by decide +kernel)
    refine GM.rsplit (strM ?_)
    ((with_reducible show wpAny _ _ (spliced (backTo _ (starEach (_ :: _) _))) _ _ _); refine wpAny_items_cons ?_)
    (with_reducible refine cS (by assumption) ?_; intro _ _ _)
    ((with_reducible show wpAny _ _ (spliced (backTo _ (starEach (_ :: _) _))) _ _ _); refine wpAny_items_cons ?_)
    (with_reducible refine cI (by assumption) ?_; intro _ _ _)
    ((with_reducible show wpAny _ _ (spliced (backTo _ (starEach [] _))) _ _ _); refine wpAny_items_nil ?_)
    dsimp only
    rename_i S
    refine rsplitS S (by (clear hz hik hlen z; (first | lia | omega))) (by decide +kernel) (by decide +kernel) fun s₃ D l hl S => ?_
    have hl0 : l ≠ [] := fun e => rsplit_ne out "\n" 1 (by rw [← hl, e]; rfl)
    have hlast : (strValues l).toArray[((-1 : Int) + ((strValues l).toArray.size : Int)).toNat]? = some (.str (lastL out) (l.getLast hl0).2) := by
      have hp : 0 < l.length := List.length_pos_iff.mpr hl0
      have e1 : ((-1 : Int) + ((strValues l).toArray.size : Int)).toNat = l.length - 1 := by simp [strValues]; (clear hz ho hik hlen z; (first | lia | omega))
      rw [e1]
      have e2 : l[l.length - 1]? = some (l.getLast hl0) := by rw [List.getLast_eq_getElem]; exact List.getElem?_eq_getElem (by (clear hz ho hik hlen z e1; (first | lia | omega)))
      have e3 : lastL out = (l.getLast hl0).1 := by
        unfold lastL; rw [← hl, List.getLastD_eq_getLast?, List.getLast?_map, List.getLast?_eq_some_getLast hl0]; rfl
      rw [e3]; simp [strValues, e2]
    have hll := lastL_len out
    have hz2 : (strValues l).toArray.size ≤ 100000 := by
      have := length_partsBetween out (Builtin.Str.occurrencesFromRight out "\n" (limitOf out 1)) ("\n" : Str).length
      have e1 := StrLaws.occR_length_le_len out "\n" (limitOf out 1)
      have e2 : (strValues l).toArray.size = (Txt.rsplitMax out "\n" 1).length := by rw [← hl]; simp [strValues]
      rw [e2]; unfold Txt.rsplitMax; split
      · simp
      · split
        · simp
        · (clear hz hik hlen z hll e2; (first | lia | omega))
    have hz3 : 0 < (strValues l).toArray.size := by have hp : 0 < l.length := List.length_pos_iff.mpr hl0; simpa [strValues] using hp
    have S := S.swap
    refine wpAny_UnaryOp ?_
    refine cI S fun s₄ t₄ S => ?_
    refine oNeg S fun s₅ t₅ S => ?_
    refine getB (v := .str (lastL out) (l.getLast hl0).2) (S.gl (i := 1) rfl) (by decide) (by (clear hz ho hik hlen z hll; (first | lia | omega))) (by (clear hz ho hik hlen z hll; (first | lia | omega))) hlast ?_
    refine sL S V (by kernel_rfl) fun s₆ S => ?_
    refine wpAny_execs_cons (wpAny_Assign_Name ?_)
    refine Subscript_ ?_
    refine nL S V (by kernel_rfl) (v := .str (lastL out) (l.getLast hl0).2) (by with_unfolding_all rfl) ?_ (by decide +kernel)
    refine wpAny_Slice ?_
    rw [evalPart_none]
    refine wpAny_pure ?_
    rw [evalPart_some]
    refine wpAny_BinOp ?_
    refine callB (id := "len") S V (by kernel_rfl) (by kernel_rfl) (by kernel_rfl) (by decide +kernel) (by decide +kernel) ?_
    refine wpAny_items_cons ?_
    refine nL S V (by kernel_rfl) (v := .str (lastL out) (l.getLast hl0).2) (by with_unfolding_all rfl) ?_ (by decide +kernel)
    refine wpAny_items_nil ?_
    refine SBL.len (by (clear hz hik hlen z hz2 hz3; (first | lia | omega))) ?_
    have S := S.toks (t := s₆.toks + 1 + 1)
    refine callB (id := "len") S V (by kernel_rfl) (by kernel_rfl) (by kernel_rfl) (by decide +kernel) (by decide +kernel) ?_
    refine wpAny_items_cons ?_
    refine methodCall_KW ?_
    refine nL S V (by kernel_rfl) (v := .str (lastL out) (l.getLast hl0).2) (by with_unfolding_all rfl) ?_ (by decide +kernel)
    refine GM.lstrip (strM ?_)
    refine wpAny_items_cons ?_
    refine cS S fun s₇ t₇ S => ?_
    refine wpAny_items_nil ?_
    refine SC.lstripChars (fun t₈ k₈ => ?_) (by rw [sizeLine_eq]; (clear hz hik hlen z hz2 hz3; (first | lia | omega)))
    have S := S.toks (t := k₈)
    have hls : (Txt.lstripChars (lastL out) " ").length ≤ (lastL out).length := PyProof.Rows.len_lstripChars _ _
    refine wpAny_items_nil ?_
    refine SBL.len (by (clear hz hik hlen z hz2 hz3; (first | lia | omega))) ?_
    have S := S.toks (t := k₈ + 1 + 1)
    refine oSub S fun s₉ t₉ S => ?_
    refine wpAny_pure ?_
    refine sliceNS S (by (clear hz hik hlen z hz2 hz3 hls; (first | lia | omega))) fun s₁₀ t₁₀ S => ?_
    have hpre : (preL (lastL out)).length ≤ (lastL out).length := Txt.slice_le _ _ _
    refine sC (i := k + 3) S V.knd (by kernel_rfl) (by kernel_rfl) hk fun s₁₁ S => ?_
    have S : St w O I (_ :: _ :: (la, .ls lv) :: ms.set k (L + 2, .ce (some (.str (preL (lastL out)) t₁₀)))) s₁₁ := S
    have hi2 : (ms.set k (L + 2, .ce (some (.str (preL (lastL out)) t₁₀))))[i]? = some (373, .tb) := by rw [List.getElem?_set_ne hik]; exact hi
    have hk2 : (ms.set k (L + 2, .ce (some (.str (preL (lastL out)) t₁₀))))[k]? = some (L + 2, .ce (some (.str (preL (lastL out)) t₁₀))) := by
      obtain ⟨q, _⟩ := List.getElem?_eq_some_iff.mp hk
      rw [List.getElem?_set_self q]
    obtain ⟨j1, j2⟩ := joinB (sep := "\n") (ys := ld.map fun c => preL (lastL out) ++ c.1) (B := 90100) (k := 1) (fun y hy => by
      obtain ⟨c, hc, rfl⟩ := List.mem_map.mp hy
      have := hb c hc
      rw [Str.length_append']; (clear hz hik hlen z hz2 hz3 hls; (first | lia | omega))) (by decide +kernel) (by rw [List.length_map]; (clear ho hik z hll hz2 hz3 hls hpre; (first | lia | omega))) (by (clear hz ho hik hlen z hll hz2 hz3 hls hpre; (first | lia | omega)))
    have e1 : ("\n" : Str).length = 1 := by decide +kernel
    refine wpAny_execs_cons (wpAny_AugAssign_Name ?_)
    refine wpAny_loadName_local V.knd (by kernel_rfl) (V.loc.symm ▸ S.get (i := 0) rfl) (v := .str out tu) (by with_unfolding_all exact m2) ?_
    refine wpAny_BinOp ?_
    refine cS S fun s₃ t₃ S => ?_
    refine methodCall_KW ?_
    refine cS S fun s₄ t₄ S => ?_
    refine GM.join (strM (wpAny_items_cons ?_))
    refine wpAny_mono (joinPs (O := O) S (i := i + 3) (k := 2) (j' := k + 3) (sep := "\n") (ts := t₄) (cs := ld) (cl := [("indent_prefix", L + 2)]) hA V (by kernel_rfl) (by kernel_rfl) rfl (by kernel_rfl) (by kernel_rfl) (by kernel_rfl) (by kernel_rfl) (by decide +kernel)
      (by kernel_rfl) (by kernel_rfl) (by decide +kernel) (by decide +kernel) hcs (by (clear ho hik z hll hz2 hz3 hls hpre j2 e1; (first | lia | omega))) (by (clear hz hik hlen z hz2 hz3 hls j2 e1; (first | lia | omega))) (fun c hc => by have := hb c hc; (clear hz ho hik hlen z hll hz2 hz3 hls hpre j2 e1; (first | lia | omega))) j1 hi2 rfl hk2 ?_ ?_) (fun g s₄ h₄ => wpAny_items_nil h₄) fun _ _ y => y
    · exact nL S V (by kernel_rfl) (by with_unfolding_all exact m1) ⟨rfl, S⟩ (by decide +kernel)
    · intro s₅ t₅ S
      refine addS S (by (clear hz ho hik hlen z hll hz2 hz3 hls hpre; (first | lia | omega))) fun s₆ t₆ S => ?_
      refine PyProof.Rows.iadd_str (fun t₇ k₇ => ?_) (by rw [sizeLine_eq, Str.length_append']; (clear hz hik hlen z hll hz2 hz3 hls hpre; (first | lia | omega)))
      have S := S.toks (t := k₇)
      refine sL S V (by kernel_rfl) fun s₈ S => ?_
      have S := St.tail S.swap
      refine wpAny_execs_nil (h _ _ _ t₇ (.inr ⟨_, rfl⟩) S ?_)
      unfold out3; rw [if_neg z]; with_unfolding_all rfl
end

end
section
section
variable {w : World} {O : OsState} {I : Im} {A : Around} {E : Value → Shared → Prop} {s : Shared} {n : Nat} {L la x C : Addr} {m mm : Str → Option Value} {ms : Ms} {tr : List Com} {tv : Array Value} {li ll : Int}
theorem compI {i : Nat} {Q : Flow → Shared → Prop} (hA : Ok A (n + 2)) (V : EnvOk (e376 w L) L) (N : NodeT w I x C mm li ll) (hcs : IComs I tv.toList tr) (hz : tv.size ≤ 100)
    (S : St w O I ((L, .ns m) :: (la, .ls tv) :: ms) s) (hi : ms[i]? = some (L + 1, .ce (some (.ref x)))) (m1 : m "trailing" = some (.ref la))
    (h : ∀ s' D dv, St w O I ((L, .ns (upd m "inline" (.ref D))) :: (D, .ls dv) :: (la, .ls tv) :: ms) s' → IComs I dv.toList (inlC ll tr) → Q .next s') :
    wpAny (model PG w) A (exec (trailB.getD 0 (.Pass ⟨0, 0, 0, 0⟩)) (e376 w L)) Q E s := by
  change wpAny _ _ (exec (.Assign [.Name _ _] (.ListComp _ [⟨_, _, [_], _⟩] _ _) _) _) _ _ _
  have hlen : tv.size = tr.length := by rw [← hcs.len]; simp
  refine asgComp (O := O) hA V (by kernel_rfl) (by kernel_rfl) (cl := [("node", L + 1)]) (by kernel_rfl) (by kernel_rfl) (by kernel_rfl) (by decide +kernel) (by kernel_rfl) ?_
  refine nL S V (by kernel_rfl) m1 ?_ (by decide +kernel)
  refine ⟨la, I, _, tv, (fun j I' ms' acc => I' = I ∧ ms' = (L, .ns m) :: (la, .ls tv) :: ms ∧ IComs I acc.toList (inlC ll (tr.take j)) ∧ acc.size ≤ j), rfl, S, S.gl (i := 1) rfl, ⟨rfl, rfl, .nil, Nat.le_refl _⟩, ?_, ?_, by (first | lia | omega), ?_, ?_⟩
  · rintro j I' ms' acc pp s ⟨rfl, rfl, _⟩ S
    exact S.gl (i := pp.length + 1) (by rw [List.getElem?_append_right (Nat.le_succ _), show pp.length + 1 - pp.length = 1 by (clear hz hlen; (first | lia | omega))]; rfl)
  · rintro j I' ms' acc ⟨_, _, _, h⟩; exact h
  · rintro j v I' ms' acc C' D it m' s₃ E₁ hv ⟨rfl, rfl, hacc, hs⟩ hm S
    obtain ⟨c, hcj, T⟩ := hcs.get (j := j) (v := v) (by simpa using hv)
    have htk : tr.take (j + 1) = tr.take j ++ [c] := by rw [List.take_add_one, hcj]; rfl
    have V' := compOk (scope := (match trailB[0]? with | some (Stmt.Assign _ (.ListComp _ _ sc _) _) => sc | _ => default)) (cl := [("node", L + 1)]) (C := C') V (by kernel_rfl)
    rw [List.forIn_cons]
    refine wpAny_bind ?_
    rw [if_pos rfl]
    refine wpAny_bind ?_
    refine wpAny_isTrue_Compare1 ?_
    refine Attribute_any_ (Attribute_any_ ?_)
    refine nL S V' (by kernel_rfl) hm ?_ (by decide +kernel)
    refine comTok (n := n) hA S T fun s₄ f₄ T₄ S => ?_
    refine tokLine S T₄ fun s₅ t₅ S => ?_
    refine Attribute_any_ (Attribute_any_ ?_)
    refine nC (i := i + 5) S (by kernel_rfl) (by kernel_rfl) (by kernel_rfl) hi ?_ (by decide +kernel)
    refine nodeLast (n := n) hA S N fun s₆ f₆ T₆ S => ?_
    refine tokLine S T₆ fun s₇ t₇ S => ?_
    refine eq_int ?_
    refine wpAny_truthy_bool (wpAny_pure ?_)
    dsimp only
    rw [List.forIn_nil]
    refine wpAny_pure ?_
    by_cases z : c.2.2 = ll
    · rw [if_pos (beq_iff_eq.mpr z)]
      refine nL S V' (by kernel_rfl) hm ?_ (by decide +kernel)
      refine ⟨I', _, S, rfl, rfl, ?_, by rw [Array.size_push]; (clear hz hlen z; (first | lia | omega))⟩
      rw [htk]; unfold inlC at hacc ⊢; rw [List.filter_append, List.filter_cons, decide_eq_true z, if_pos rfl, Array.toList_push]; exact hacc.app (.one T)
    · rw [if_neg (fun q => z (beq_iff_eq.mp q))]
      refine ⟨I', _, S, rfl, rfl, ?_, by (clear hz hlen z; (first | lia | omega))⟩
      rw [htk]; unfold inlC at hacc ⊢; rw [List.filter_append, List.filter_cons, decide_eq_false z, if_neg Bool.false_ne_true]; simpa using hacc
  · rintro I' ms' acc s₃ ⟨rfl, rfl, hacc, _⟩ D C' m' S
    have e : tr.take tv.size = tr := by rw [List.take_of_length_le]; (clear hz; (first | lia | omega))
    rw [e] at hacc
    exact ⟨m, _, rfl, fun s' S => h _ _ _ S hacc⟩
theorem compA {i : Nat} {Q : Flow → Shared → Prop} (hA : Ok A (n + 2)) (V : EnvOk (e376 w L) L) (N : NodeT w I x C mm li ll) (hcs : IComs I tv.toList tr) (hz : tv.size ≤ 100)
    (S : St w O I ((L, .ns m) :: (la, .ls tv) :: ms) s) (hi : ms[i]? = some (L + 1, .ce (some (.ref x)))) (m1 : m "trailing" = some (.ref la))
    (h : ∀ s' D dv, St w O I ((L, .ns (upd m "afterward" (.ref D))) :: (D, .ls dv) :: (la, .ls tv) :: ms) s' → IComs I dv.toList (aftC ll tr) → Q .next s') :
    wpAny (model PG w) A (exec (trailB.getD 1 (.Pass ⟨0, 0, 0, 0⟩)) (e376 w L)) Q E s := by
  change wpAny _ _ (exec (.Assign [.Name _ _] (.ListComp _ [⟨_, _, [_], _⟩] _ _) _) _) _ _ _
  have hlen : tv.size = tr.length := by rw [← hcs.len]; simp
  refine asgComp (O := O) hA V (by kernel_rfl) (by kernel_rfl) (cl := [("node", L + 1)]) (by kernel_rfl) (by kernel_rfl) (by kernel_rfl) (by decide +kernel) (by kernel_rfl) ?_
  refine nL S V (by kernel_rfl) m1 ?_ (by decide +kernel)
  refine ⟨la, I, _, tv, (fun j I' ms' acc => I' = I ∧ ms' = (L, .ns m) :: (la, .ls tv) :: ms ∧ IComs I acc.toList (aftC ll (tr.take j)) ∧ acc.size ≤ j), rfl, S, S.gl (i := 1) rfl, ⟨rfl, rfl, .nil, Nat.le_refl _⟩, ?_, ?_, by (first | lia | omega), ?_, ?_⟩
  · rintro j I' ms' acc pp s ⟨rfl, rfl, _⟩ S
    exact S.gl (i := pp.length + 1) (by rw [List.getElem?_append_right (Nat.le_succ _), show pp.length + 1 - pp.length = 1 by (clear hz hlen; (first | lia | omega))]; rfl)
  · rintro j I' ms' acc ⟨_, _, _, h⟩; exact h
  · rintro j v I' ms' acc C' D it m' s₃ E₁ hv ⟨rfl, rfl, hacc, hs⟩ hm S
    obtain ⟨c, hcj, T⟩ := hcs.get (j := j) (v := v) (by simpa using hv)
    have htk : tr.take (j + 1) = tr.take j ++ [c] := by rw [List.take_add_one, hcj]; rfl
    have V' := compOk (scope := (match trailB[1]? with | some (Stmt.Assign _ (.ListComp _ _ sc _) _) => sc | _ => default)) (cl := [("node", L + 1)]) (C := C') V (by kernel_rfl)
    rw [List.forIn_cons]
    refine wpAny_bind ?_
    rw [if_pos rfl]
    refine wpAny_bind ?_
    refine wpAny_isTrue_Compare1 ?_
    refine Attribute_any_ (Attribute_any_ ?_)
    refine nL S V' (by kernel_rfl) hm ?_ (by decide +kernel)
    refine comTok (n := n) hA S T fun s₄ f₄ T₄ S => ?_
    refine tokLine S T₄ fun s₅ t₅ S => ?_
    refine Attribute_any_ (Attribute_any_ ?_)
    refine nC (i := i + 5) S (by kernel_rfl) (by kernel_rfl) (by kernel_rfl) hi ?_ (by decide +kernel)
    refine nodeLast (n := n) hA S N fun s₆ f₆ T₆ S => ?_
    refine tokLine S T₆ fun s₇ t₇ S => ?_
    refine ne_int ?_
    refine wpAny_truthy_bool (wpAny_pure ?_)
    dsimp only
    rw [List.forIn_nil]
    refine wpAny_pure ?_
    by_cases z : c.2.2 = ll
    · rw [if_neg (by simp [z])]
      refine ⟨I', _, S, rfl, rfl, ?_, by (clear hz hlen z; (first | lia | omega))⟩
      rw [htk]; unfold aftC at hacc ⊢; rw [List.filter_append, List.filter_cons, decide_eq_true z]; simpa using hacc
    · rw [if_pos (by simpa using z)]
      refine nL S V' (by kernel_rfl) hm ?_ (by decide +kernel)
      refine ⟨I', _, S, rfl, rfl, ?_, by rw [Array.size_push]; (clear hz hlen z; (first | lia | omega))⟩
      rw [htk]; unfold aftC at hacc ⊢; rw [List.filter_append, List.filter_cons, decide_eq_false z, Bool.not_false, if_pos rfl, Array.toList_push]; exact hacc.app (.one T)
  · rintro I' ms' acc s₃ ⟨rfl, rfl, hacc, _⟩ D C' m' S
    have e : tr.take tv.size = tr := by rw [List.take_of_length_le]; (clear hz; (first | lia | omega))
    rw [e] at hacc
    exact ⟨m, _, rfl, fun s' S => h _ _ _ S hacc⟩
end

end
section
noncomputable def deco (cs : List Com) (li ll : Int) (o : Str) : Str := out3 (aftC ll (trailC li cs)) (out2 (inlC ll (trailC li cs)) (out1 (leadC li cs) o))
theorem upd_ne {m : Str → Option Value} {x y : Str} {v : Value} (h : y ≠ x) : upd m x v y = m y := if_neg h
theorem upd_eq {m : Str → Option Value} {x : Str} {v : Value} : upd m x v x = some v := if_pos rfl
theorem out1_len {ld : List Com} {o : Str} (hb : ∀ c ∈ ld, c.1.length ≤ 100) (hn : ld.length ≤ 100) : (out1 ld o).length ≤ o.length + 10101 := by
  unfold out1
  split
  · (clear hn; (first | lia | omega))
  · have := (joinB (sep := "\n") (ys := ld.map (·.1)) (B := 100) (k := 1) (fun y hy => by obtain ⟨c, hc, rfl⟩ := List.mem_map.mp hy; exact hb c hc) (by decide +kernel) (by rw [List.length_map]; (first | lia | omega)) (by (clear hn; (first | lia | omega)))).2
    have e1 : ("\n" : Str).length = 1 := by decide +kernel
    rw [Str.length_append', Str.length_append']; (clear hn; (first | lia | omega))
theorem out2_len {ld : List Com} {o : Str} (hb : ∀ c ∈ ld, c.1.length ≤ 100) (hn : ld.length ≤ 100) : (out2 ld o).length ≤ o.length + 10101 := by
  unfold out2
  split
  · (clear hn; (first | lia | omega))
  · have := (joinB (sep := " ") (ys := ld.map (·.1)) (B := 100) (k := 1) (fun y hy => by obtain ⟨c, hc, rfl⟩ := List.mem_map.mp hy; exact hb c hc) (by decide +kernel) (by rw [List.length_map]; (first | lia | omega)) (by (clear hn; (first | lia | omega)))).2
    have e1 : (" " : Str).length = 1 := by decide +kernel
    rw [Str.length_append', Str.length_append']; (clear hn; (first | lia | omega))
section
variable {w : World} {O : OsState} {I : Im} {sv dv : Addr} {wd : Int} {tw : Tok} {n : Nat} {lv : Int} {out : Str} {x C cl : Addr} {mm : Str → Option Value} {cv : Array Value} {cs : List Com} {li ll : Int}
/-- a node with remarks -/
theorem doNode (h : VC w O I sv dv wd tw (n + 2) 383 (.ref x) lv out) (N : NodeT w I x C mm li ll) (hc : mm "comments" = some (.ref cl)) (hl : ILst I cl cv) (hcs : IComs I cv.toList cs) (hz : cs.length ≤ 100) (hb : ∀ c ∈ cs, c.1.length ≤ 100) (ho : out.length ≤ 50000) :
    VC w O I sv dv wd tw (n + 3) 376 (.ref x) lv (deco cs li ll out) := by
  intro A E s p t Q hA S fin
  have hlen : cv.size = cs.length := by rw [← hcs.len]; simp
  have bL : ∀ c ∈ leadC li cs, c.1.length ≤ 100 := fun c hc => hb c ((List.mem_filter.mp hc).1)
  have bT : ∀ c ∈ trailC li cs, c.1.length ≤ 100 := fun c hc => hb c ((List.mem_filter.mp hc).1)
  have nL' : (leadC li cs).length ≤ 100 := Nat.le_trans (List.length_filter_le _ _) hz
  have nT : (trailC li cs).length ≤ 100 := Nat.le_trans (List.length_filter_le _ _) hz
  refine enterDo h hA S fun A' L s' E' t' tu m hA' V hc' m1 m2 S => ?_
  refine doHead (m := m) (n := n + 2) hA' V N.h N.k hc hl (by (clear ho nL' nT; (first | lia | omega))) S fun s₂ S => ?_
  have ret : ∀ s' (m' : Str → Option Value) tu' ms', (vz sv dv wd tw lv t' ++ p).Sublist ms' → St w O I ((L, .ns m') :: ms') s' → m' "output" = some (.str (deco cs li ll out) tu') →
      wpAny (model PG w) A' (execs ((fnB (stB 20 1)).drop 3) (e376 w L)) (fun fl s'' => Q (match fl with | .ret v => v | _ => .none) s'') E' s' := by
    intro s' m' tu' ms' hs S hm
    change wpAny _ A' (execs [_] (e376 w L)) _ _ _
    refine wpAny_execs_cons (wpAny_Return_some ?_)
    refine nL S V (by kernel_rfl) hm ?_ (by decide +kernel)
    exact fin _ _ _ (S.tail.sub hs)
  split
  · rename_i z
    have z : cs = [] := List.length_eq_zero_iff.mp (by (clear hz ho nL' nT; (first | lia | omega)))
    refine ret _ _ tu _ (.cons _ (.cons _ (List.Sublist.refl _))) S ?_
    rw [m2, z]; rfl
  · change wpAny _ A' (execs (_ :: _ :: forD :: bodyD.getD 3 (.Pass ⟨0, 0, 0, 0⟩) :: bodyD.getD 4 (.Pass ⟨0, 0, 0, 0⟩) :: []) (e376 w L)) _ _ _
    refine wpAny_execs_cons (wpAny_Assign_Name (listD S fun s₃ la S => ?_))
    refine sL S V (by kernel_rfl) fun s₄ S => ?_
    refine wpAny_execs_cons (wpAny_Assign_Name (listD S fun s₅ ta S => ?_))
    refine sL S V (by kernel_rfl) fun s₆ S => ?_
    have S := St.swap (St.front (l₁ := [_, _]) S)
    refine wpAny_execs_cons (loopD (n := n) (i := 1) (li := li) (ll := ll) hA' V N hc hl hcs (by (clear ho nL' nT; (first | lia | omega))) S rfl ((upd_ne (by decide +kernel)).trans upd_eq) upd_eq ((upd_ne (by decide +kernel)).trans ((upd_ne (by decide +kernel)).trans m2)) fun s₇ m₇ lw tv S k1 k2 k3 hL hT => ?_)
    have zL : lw.size = (leadC li cs).length := by rw [← hL.len]; simp
    have zT : tv.size = (trailC li cs).length := by rw [← hT.len]; simp
    refine wpAny_execs_cons (leadD (n := n + 2) (i := 5) hA' V hL (by (clear hz ho hlen nT zT; (first | lia | omega))) bL ho S rfl k1 k3 fun s₈ m₈ t₈ S k4 k5 => ?_)
    have o1 := out1_len (o := out) bL nL'
    refine wpAny_execs_cons ?_
    change wpAny _ _ (exec (.If _ _ [] _) _) _ _ _
    refine wpAny_If (isTrue_plain ?_)
    have kt : m₈ "trailing" = some (.ref ta) := (k5 _ (by decide +kernel)).trans k2
    refine nL S V (by kernel_rfl) kt ?_ (by decide +kernel)
    refine truthyL S (S.gl (i := 2) rfl) (by (clear hz ho hlen nL' zL o1; (first | lia | omega))) fun s₉ S => ?_
    by_cases z : trailC li cs = []
    · rw [decide_eq_false (by rw [zT, z]; exact fun q => q rfl), if_neg Bool.false_ne_true]
      refine wpAny_execs_nil (wpAny_execs_nil (ret _ _ t₈ _ (.cons _ (.cons _ (.cons _ (.cons _ (List.Sublist.refl _))))) S ?_))
      rw [k4]; unfold deco; rw [z]; rfl
    · rw [decide_eq_true (by rw [zT]; exact fun q => z (List.length_eq_zero_iff.mp q)), if_pos rfl]
      change wpAny _ A' (execs (trailB.getD 0 (.Pass ⟨0, 0, 0, 0⟩) :: trailB.getD 1 (.Pass ⟨0, 0, 0, 0⟩) :: trailB.getD 2 (.Pass ⟨0, 0, 0, 0⟩) :: trailB.getD 3 (.Pass ⟨0, 0, 0, 0⟩) :: []) (e376 w L)) _ _ _
      have S := St.tail (St.swap S)
      refine wpAny_execs_cons (compI (n := n) (i := 1) (li := li) (ll := ll) hA' V N hT (by (clear hz ho hlen nL' zL o1 z; (first | lia | omega))) S rfl kt fun s₁₀ D₁ d₁ S hI => ?_)
      have S := St.swap (St.front (l₁ := [_, _]) S)
      refine wpAny_execs_cons (compA (n := n) (i := 2) (li := li) (ll := ll) hA' V N hT (by (clear hz ho hlen nL' zL o1 z; (first | lia | omega))) S rfl ((upd_ne (by decide +kernel)).trans kt) fun s₁₁ D₂ d₂ S hF => ?_)
      have bI : ∀ c ∈ inlC ll (trailC li cs), c.1.length ≤ 100 := fun c hc => bT c ((List.mem_filter.mp hc).1)
      have bF : ∀ c ∈ aftC ll (trailC li cs), c.1.length ≤ 100 := fun c hc => bT c ((List.mem_filter.mp hc).1)
      have nI : (inlC ll (trailC li cs)).length ≤ 100 := Nat.le_trans (List.length_filter_le _ _) nT
      have nF : (aftC ll (trailC li cs)).length ≤ 100 := Nat.le_trans (List.length_filter_le _ _) nT
      have zI : d₁.size = (inlC ll (trailC li cs)).length := by rw [← hI.len]; simp
      have zF : d₂.size = (aftC ll (trailC li cs)).length := by rw [← hF.len]; simp
      have S := St.swap (St.front (l₁ := [_, _, _]) S)
      refine wpAny_execs_cons (inlD (n := n + 2) (i := 6) hA' V hI (by (clear hz ho hlen nL' nT zL zT o1 z nF zF; (first | lia | omega))) bI (by (clear hz hlen nL' nT zL zT z nI nF zI zF; (first | lia | omega))) S rfl (tu := t₈) (out := out1 (leadC li cs) out) ((upd_ne (by decide +kernel)).trans upd_eq) ((upd_ne (by decide +kernel)).trans ((upd_ne (by decide +kernel)).trans k4)) fun s₁₂ m₁₂ t₁₂ S k6 k7 => ?_)
      have o2 := out2_len (o := out1 (leadC li cs) out) bI nI
      have S := St.swap (St.front (l₁ := [_, _]) S)
      refine wpAny_execs_cons (aftD (n := n + 2) (i := 6) (k := 2) (out := out2 (inlC ll (trailC li cs)) (out1 (leadC li cs) out)) hA' V hF (by (clear hz ho hlen nL' nT zL zT o1 z nI zI o2; (first | lia | omega))) bF (by (clear hz hlen nL' nT zL zT z nI nF zI zF; (first | lia | omega))) S rfl rfl (by decide) ((k7 _ (by decide +kernel)).trans upd_eq) k6 fun s₁₃ m₁₃ ms' t₁₃ hms S k8 => ?_)
      refine wpAny_execs_nil (wpAny_execs_nil (ret _ _ t₁₃ _ ?_ S k8))
      rcases hms with rfl | ⟨v, rfl⟩
      · exact .cons _ (.cons _ (.cons _ (.cons _ (.cons _ (List.Sublist.refl _)))))
      · exact .cons _ (.cons _ (.cons _ (.cons _ (.cons _ (List.Sublist.refl _)))))
end

end
section
theorem lk390 (P : Params) : (K0 P).lookup 390 = some (ko390 P) := by kernel_rfl
theorem lk402 (P : Params) : (K0 P).lookup 402 = some (ko402 P) := by kernel_rfl
theorem lk456 (P : Params) : (K0 P).lookup 456 = some (ko456 P) := by kernel_rfl
theorem lk792 (P : Params) : (K0 P).lookup 792 = some (ko792 P) := by kernel_rfl
noncomputable abbrev e390 (w : World) (L : Addr) : Env := callEnv (fdOf (ko390 w.params)) L 390
noncomputable abbrev e402 (w : World) (L : Addr) : Env := callEnv (fdOf (ko402 w.params)) L 402
noncomputable abbrev e456 (w : World) (L : Addr) : Env := callEnv (fdOf (ko456 w.params)) L 456
noncomputable abbrev e792 (w : World) (L : Addr) : Env := callEnv (fdOf (ko792 w.params)) L 792
section
variable {w : World} {O : OsState} {I : Im} {sv dv : Addr} {wd : Int} {tw : Tok} {n : Nat} {lv : Int} {out : Str} {x C b : Addr} {mm : Str → Option Value}
theorem vStr {t0 : Tok} : VC w O I sv dv wd tw (n + 1) 402 (.str out t0) lv out := by
  intro A E s p t Q hA S fin
  refine enter (n := n) (binds := [("self", .ref sv), ("node", .str out t0)]) S hA (lk402 _) rfl rfl (by kernel_rfl) (.of_eq (by kernel_rfl)) fun A' L s' E' hA' V S => ?_
  change wpAny _ A' (execs (fnB (stB 20 5)) (e402 w L)) _ _ _
  refine wpAny_execs_cons ?_
  with_reducible refine wpAny_Return_some ?_
  ((with_reducible show wpAny _ _ (eval (.Name _ _) _) _ _ _); refine nL (by assumption) (by assumption) (by kernel_rfl) (by first | with_unfolding_all rfl | with_unfolding_all assumption) ?_ (by decide +kernel))
  dsimp only
  exact fin _ _ _ (St.tail (by assumption))
theorem vChunk {bv : Value} (h : VC w O I sv dv wd tw n 376 bv lv out) (H : IHI I x 224 mm) (hb : mm "body" = some bv) (hh : handedIn bv = true) : VC w O I sv dv wd tw (n + 1) 390 (.ref x) lv out := by
  intro A E s p t Q hA S fin
  refine enter (n := n) (binds := [("self", .ref sv), ("node", .ref x)]) S hA (lk390 _) rfl rfl (by kernel_rfl) (.of_eq (by kernel_rfl)) fun A' L s' E' hA' V S => ?_
  change wpAny _ A' (execs (fnB (stB 20 3)) (e390 w L)) _ _ _
  refine wpAny_execs_cons ?_
  with_reducible refine wpAny_Return_some ?_
  ((with_reducible show wpAny _ _ (eval (.Call (.Attribute _ _ _) _ _ _) _) _ _ _); refine methodCall_KW ?_)
  ((with_reducible show wpAny _ _ (eval (.Name _ _) _) _ _ _); refine nL (by assumption) (by assumption) (by kernel_rfl) (by first | with_unfolding_all rfl | with_unfolding_all assumption) ?_ (by decide +kernel))
  dsimp only
  rename_i S
  refine metA S (S.hi (i := 1) (j := 2) rfl rfl) (by rfl) (f := 376) (by kernel_rfl) ?_
  refine callWith_K (first := [.ref sv]) S.kin (by kernel_rfl) ?_
  ((with_reducible show wpAny _ _ (spliced (backTo _ (starEach (_ :: _) _))) _ _ _); refine wpAny_items_cons ?_)
  ((with_reducible show wpAny _ _ (eval (.Attribute _ _ _) _) _ _ _); refine Attribute_any_ ?_)
  ((with_reducible show wpAny _ _ (eval (.Name _ _) _) _ _ _); refine nL (by assumption) (by assumption) (by kernel_rfl) (by first | with_unfolding_all rfl | with_unfolding_all assumption) ?_ (by decide +kernel))
  dsimp only
  refine getA S (H.at S) hb (by kernel_rfl) hh fun s₂ S => ?_
  refine wpAny_items_nil ⟨S.kin, wpAny_call ?_⟩
  have S := St.mid [_] (vz sv dv wd tw lv t) S
  refine h _ _ _ _ _ _ hA' S fun s₆ t' u S => ?_
  exact fin _ _ _ (St.tail (St.mid (vz sv dv wd tw lv t') [_] S))
end

end
section
section
variable {w : World} {O : OsState} {I : Im} {sv dv : Addr} {wd : Int} {tw : Tok} {n : Nat} {lv : Int} {out : Str} {x C b : Addr} {mm : Str → Option Value}
theorem vName {bv : Value} (h : VC w O I sv dv wd tw n 376 bv lv out) (H : IHI I x 258 mm) (hb : mm "id" = some bv) (hh : handedIn bv = true) : VC w O I sv dv wd tw (n + 1) 792 (.ref x) lv out := by
  intro A E s p t Q hA S fin
  refine enter (n := n) (binds := [("self", .ref sv), ("node", .ref x)]) S hA (lk792 _) rfl rfl (by kernel_rfl) (.of_eq (by kernel_rfl)) fun A' L s' E' hA' V S => ?_
  change wpAny _ A' (execs (fnB (stB 20 61)) (e792 w L)) _ _ _
  refine wpAny_execs_cons ?_
  with_reducible refine wpAny_Return_some ?_
  ((with_reducible show wpAny _ _ (eval (.Call (.Attribute _ _ _) _ _ _) _) _ _ _); refine methodCall_KW ?_)
  ((with_reducible show wpAny _ _ (eval (.Name _ _) _) _ _ _); refine nL (by assumption) (by assumption) (by kernel_rfl) (by first | with_unfolding_all rfl | with_unfolding_all assumption) ?_ (by decide +kernel))
  dsimp only
  rename_i S
  refine metA S (S.hi (i := 1) (j := 2) rfl rfl) (by rfl) (f := 376) (by kernel_rfl) ?_
  refine callWith_K (first := [.ref sv]) S.kin (by kernel_rfl) ?_
  ((with_reducible show wpAny _ _ (spliced (backTo _ (starEach (_ :: _) _))) _ _ _); refine wpAny_items_cons ?_)
  ((with_reducible show wpAny _ _ (eval (.Attribute _ _ _) _) _ _ _); refine Attribute_any_ ?_)
  ((with_reducible show wpAny _ _ (eval (.Name _ _) _) _ _ _); refine nL (by assumption) (by assumption) (by kernel_rfl) (by first | with_unfolding_all rfl | with_unfolding_all assumption) ?_ (by decide +kernel))
  dsimp only
  refine getA S (H.at S) hb (by kernel_rfl) hh fun s₂ S => ?_
  refine wpAny_items_nil ⟨S.kin, wpAny_call ?_⟩
  have S := St.mid [_] (vz sv dv wd tw lv t) S
  refine h _ _ _ _ _ _ hA' S fun s₆ t' u S => ?_
  exact fin _ _ _ (St.tail (St.mid (vz sv dv wd tw lv t') [_] S))
theorem vDo {bv : Value} (h : VC w O I sv dv wd tw n 376 bv lv out) (H : IHI I x 293 mm) (hb : mm "body" = some bv) (hh : handedIn bv = true) (ho : out.length ≤ 1000000) : VC w O I sv dv wd tw (n + 1) 456 (.ref x) lv ((("do\n" : Str) ++ out) ++ ("\nend" : Str)) := by
  intro A E s p t Q hA S fin
  refine enter (n := n) (binds := [("self", .ref sv), ("node", .ref x)]) S hA (lk456 _) rfl rfl (by kernel_rfl) (.of_eq (by kernel_rfl)) fun A' L s' E' hA' V S => ?_
  change wpAny _ A' (execs (fnB (stB 20 13)) (e456 w L)) _ _ _
  refine wpAny_execs_cons ?_
  with_reducible refine wpAny_Return_some ?_
  with_reducible refine wpAny_BinOp ?_
  with_reducible refine wpAny_BinOp ?_
  (with_reducible refine cS (by assumption) ?_; intro _ _ _)
  ((with_reducible show wpAny _ _ (eval (.Call (.Attribute _ _ _) _ _ _) _) _ _ _); refine methodCall_KW ?_)
  ((with_reducible show wpAny _ _ (eval (.Name _ _) _) _ _ _); refine nL (by assumption) (by assumption) (by kernel_rfl) (by first | with_unfolding_all rfl | with_unfolding_all assumption) ?_ (by decide +kernel))
  dsimp only
  rename_i S
  refine metA S (S.hi (i := 1) (j := 2) rfl rfl) (by rfl) (f := 376) (by kernel_rfl) ?_
  refine callWith_K (first := [.ref sv]) S.kin (by kernel_rfl) ?_
  ((with_reducible show wpAny _ _ (spliced (backTo _ (starEach (_ :: _) _))) _ _ _); refine wpAny_items_cons ?_)
  ((with_reducible show wpAny _ _ (eval (.Attribute _ _ _) _) _ _ _); refine Attribute_any_ ?_)
  ((with_reducible show wpAny _ _ (eval (.Name _ _) _) _ _ _); refine nL (by assumption) (by assumption) (by kernel_rfl) (by first | with_unfolding_all rfl | with_unfolding_all assumption) ?_ (by decide +kernel))
  dsimp only
  refine getA S (H.at S) hb (by kernel_rfl) hh fun s₂ S => ?_
  refine wpAny_items_nil ⟨S.kin, wpAny_call ?_⟩
  have S := St.mid [_] (vz sv dv wd tw lv t) S
  refine h _ _ _ _ _ _ hA' S fun s₆ t' u S => ?_
  have e1 : ("do\n" : Str).length = 3 := by decide +kernel
  have e2 : ("\nend" : Str).length = 4 := by decide +kernel
  refine addS S (by (clear e2; (first | lia | omega))) fun s₇ t₇ S => ?_
  refine cS S fun s₈ t₈ S => ?_
  refine addS S (by rw [Str.length_append']; (first | lia | omega)) fun s₉ t₉ S => ?_
  exact fin _ _ _ (St.tail (St.mid (vz sv dv wd tw lv t') [_] S))
end

end
section
theorem lk421 (P : Params) : (K0 P).lookup 421 = some (ko421 P) := by kernel_rfl
theorem lk519 (P : Params) : (K0 P).lookup 519 = some (ko519 P) := by kernel_rfl
noncomputable abbrev e421 (w : World) (L : Addr) : Env := callEnvC (fdOf (ko421 w.params)) L 421
noncomputable abbrev e519 (w : World) (L : Addr) : Env := callEnv (fdOf (ko519 w.params)) L 519
section
variable {w : World} {O : OsState} {I : Im} {sv dv : Addr} {wd : Int} {tw : Tok} {n : Nat} {lv : Int} {o1 o2 : Str} {x C b l : Addr} {mm : Str → Option Value}
theorem vCall {fv av : Value} (h1 : VC w O I sv dv wd tw n 376 fv lv o1) (h2 : VC w O I sv dv wd tw n 376 av lv o2) (H : IHI I x 336 mm) (hf : mm "func" = some fv) (ha : mm "args" = some av) (hh1 : handedIn fv = true) (hh2 : handedIn av = true) (b1 : o1.length ≤ 1000000) (b2 : o2.length ≤ 1000000) :
    VC w O I sv dv wd tw (n + 1) 519 (.ref x) lv (((o1 ++ ("(" : Str)) ++ o2) ++ (")" : Str)) := by
  intro A E s p t Q hA S fin
  refine enter (n := n) (binds := [("self", .ref sv), ("node", .ref x)]) S hA (lk519 _) rfl rfl (by kernel_rfl) (.of_eq (by kernel_rfl)) fun A' L s' E' hA' V S => ?_
  change wpAny _ A' (execs (fnB (stB 20 22)) (e519 w L)) _ _ _
  refine wpAny_execs_cons ?_
  with_reducible refine wpAny_Return_some ?_
  with_reducible refine wpAny_BinOp ?_
  with_reducible refine wpAny_BinOp ?_
  with_reducible refine wpAny_BinOp ?_
  ((with_reducible show wpAny _ _ (eval (.Call (.Attribute _ _ _) _ _ _) _) _ _ _); refine methodCall_KW ?_)
  ((with_reducible show wpAny _ _ (eval (.Name _ _) _) _ _ _); refine nL (by assumption) (by assumption) (by kernel_rfl) (by first | with_unfolding_all rfl | with_unfolding_all assumption) ?_ (by decide +kernel))
  dsimp only
  rename_i S
  refine metA S (S.hi (i := 1) (j := 2) rfl rfl) (by rfl) (f := 376) (by kernel_rfl) ?_
  refine callWith_K (first := [.ref sv]) S.kin (by kernel_rfl) ?_
  ((with_reducible show wpAny _ _ (spliced (backTo _ (starEach (_ :: _) _))) _ _ _); refine wpAny_items_cons ?_)
  ((with_reducible show wpAny _ _ (eval (.Attribute _ _ _) _) _ _ _); refine Attribute_any_ ?_)
  ((with_reducible show wpAny _ _ (eval (.Name _ _) _) _ _ _); refine nL (by assumption) (by assumption) (by kernel_rfl) (by first | with_unfolding_all rfl | with_unfolding_all assumption) ?_ (by decide +kernel))
  dsimp only
  refine getA S (H.at S) hf (by kernel_rfl) hh1 fun s₂ S => ?_
  refine wpAny_items_nil ⟨S.kin, wpAny_call ?_⟩
  have S := St.mid [_] (vz sv dv wd tw lv t) S
  refine h1 _ _ _ _ _ _ hA' S fun s₃ t₃ u₃ S => ?_
  have S := St.mid (vz sv dv wd tw lv t₃) [_] S
  refine cS S fun s₄ t₄ S => ?_
  have e1 : ("(" : Str).length = 1 := by decide +kernel
  have e2 : (")" : Str).length = 1 := by decide +kernel
  refine addS S (by (clear b2 e2; (first | lia | omega))) fun s₅ t₅ S => ?_
  have S : St w O I ((L, .ns _) :: (vz sv dv wd tw lv t₃ ++ p)) s₅ := S
  ((with_reducible show wpAny _ _ (eval (.Call (.Attribute _ _ _) _ _ _) _) _ _ _); refine methodCall_KW ?_)
  ((with_reducible show wpAny _ _ (eval (.Name _ _) _) _ _ _); refine nL (by assumption) (by assumption) (by kernel_rfl) (by first | with_unfolding_all rfl | with_unfolding_all assumption) ?_ (by decide +kernel))
  refine metA S (S.hi (i := 1) (j := 2) rfl rfl) (by rfl) (f := 376) (by kernel_rfl) ?_
  refine callWith_K (first := [.ref sv]) S.kin (by kernel_rfl) ?_
  ((with_reducible show wpAny _ _ (spliced (backTo _ (starEach (_ :: _) _))) _ _ _); refine wpAny_items_cons ?_)
  ((with_reducible show wpAny _ _ (eval (.Attribute _ _ _) _) _ _ _); refine Attribute_any_ ?_)
  ((with_reducible show wpAny _ _ (eval (.Name _ _) _) _ _ _); refine nL (by assumption) (by assumption) (by kernel_rfl) (by first | with_unfolding_all rfl | with_unfolding_all assumption) ?_ (by decide +kernel))
  dsimp only
  refine getA S (H.at S) ha (by kernel_rfl) hh2 fun s₆ S => ?_
  refine wpAny_items_nil ⟨S.kin, wpAny_call ?_⟩
  have S := St.mid [_] (vz sv dv wd tw lv t₃) S
  refine h2 _ _ _ _ _ _ hA' S fun s₇ t₇ u₇ S => ?_
  have S := St.mid (vz sv dv wd tw lv t₇) [_] S
  refine addS S (by rw [Str.length_append']; (clear e2; (first | lia | omega))) fun s₈ t₈ S => ?_
  refine cS S fun s₉ t₉ S => ?_
  refine addS S (by rw [Str.length_append', Str.length_append']; (first | lia | omega)) fun s₁₀ t₁₀ S => ?_
  exact fin _ _ _ (St.tail S)
/-- the empty list of arguments -/
theorem vList (hl : ILst I l #[]) : VC w O I sv dv wd tw (n + 1) 421 (.ref l) lv "" := by
  intro A E s p t Q hA S fin
  refine enterC (n := n) (binds := [("self", .ref sv), ("node", .ref l)]) (fun L => [("self", L + 1)]) ["self"] S hA (lk421 _) rfl rfl (by kernel_rfl) (by kernel_rfl) (fun L => by kernel_rfl) (fun L => rfl) (by decide +kernel)
    (fun y => if y = "self" then some (.ref sv) else none) (fun y => if y = "node" then some (.ref l) else none) (by kernel_rfl) (by kernel_rfl) fun A' L s' E' hA' V hc S => ?_
  change wpAny _ A' (execs (fnB (stB 20 8)) (e421 w L)) _ _ _
  have S : St w O I ((L, .ns fun y => if y = "node" then some (.ref l) else none) :: (L + 1, .ce (some (.ref sv))) :: (vz sv dv wd tw lv t ++ p)) s' := S
  refine wpAny_execs_cons ?_
  refine wpAny_Return_some ?_
  refine methodCall_KW ?_
  refine cS S fun s₂ t₂ S => ?_
  refine GM.join ?_
  refine strM ?_
  refine wpAny_items_cons ?_
  refine listComp (O := O) hA' V (cl := [("self", L + 1)]) rfl (by kernel_rfl) (by kernel_rfl) (by decide +kernel) (by kernel_rfl) ?_
  refine nL S V (by kernel_rfl) (by with_unfolding_all rfl) ?_ (by decide +kernel)
  refine ⟨l, I, _, #[], (fun j I' ms' acc => I' = I ∧ ms' = ((L, .ns fun y => if y = "node" then some (.ref l) else none) :: (L + 1, .ce (some (.ref sv))) :: (vz sv dv wd tw lv t ++ p)) ∧ acc = #[]), rfl, S, hl.lst S, ⟨rfl, rfl, rfl⟩, ?_, ?_, ?_, ?_, ?_⟩
  · rintro j I' ms' acc pp s ⟨rfl, rfl, _⟩ S; exact hl.lst S
  · rintro j I' ms' acc ⟨_, _, rfl⟩; exact Nat.zero_le _
  · exact Nat.zero_le _
  · rintro j v I' ms' acc C D' it m s₃ E₁ hv; simp at hv
  · rintro I' ms' acc D' s₃ ⟨rfl, rfl, rfl⟩ S
    refine wpAny_items_nil ?_
    refine joinS (i := 0) S rfl TL.nil (by decide +kernel) fun s₄ t' S => ?_
    rw [show Txt.join (", " : Str) [] = ("" : Str) from by decide +kernel]
    exact fin _ _ _ (St.tail (St.tail (St.tail S)))
end

end
section
theorem lk395 (P : Params) : (K0 P).lookup 395 = some (ko395 P) := by kernel_rfl
noncomputable abbrev e395 (w : World) (L : Addr) : Env := callEnvC (fdOf (ko395 w.params)) L 395
theorem visM_upd {wd : Int} {tw : Tok} {lv lv' : Int} {t t' : Tok} : upd (visM wd tw lv t) "_level" (.int lv' t') = visM wd tw lv' t' := by
  funext y; unfold upd visM
  by_cases h : y = "_level"
  · rw [if_pos h, if_pos h]
  · rw [if_neg h, if_neg h, if_neg h]
section
variable {w : World} {O : OsState} {I : Im} {sv dv : Addr} {wd : Int} {tw : Tok} {n : Nat} {lv : Int} {x bl : Addr} {mm : Str → Option Value} {items : Array Value} {outs : List Str}
noncomputable abbrev ind0 (wd lv : Int) : Int := if 1 < lv + 1 then wd else 0
theorem vBlock (h : ∀ (j : Nat) v, items[j]? = some v → ∃ o, outs[j]? = some o ∧ VC w O I sv dv wd tw (n + 1) 376 v (lv + 1) o) (hz : items.size = outs.length) (hz2 : items.size ≤ 100000) (H : IHI I x 203 mm) (hb : mm "body" = some (.ref bl)) (hl : ILst I bl items)
    (hw0 : 0 ≤ wd) (hw1 : wd ≤ 100) (hj : JoinOk "\n" outs = true) (ho : (Txt.join ("\n" : Str) outs).length ≤ 90000) (hj2 : JoinOk "" ((kLines (Txt.join ("\n" : Str) outs)).map (inL (Txt.mul " " (ind0 wd lv)))) = true) (hlv : 0 ≤ lv) (hlv2 : lv ≤ 1000) :
    VC w O I sv dv wd tw (n + 3) 395 (.ref x) lv (indS (Txt.join ("\n" : Str) outs) (Txt.mul " " (ind0 wd lv))) := by
  intro A E s p t Q hA S fin
  refine enterC (n := n + 2) (binds := [("self", .ref sv), ("node", .ref x)]) (fun L => [("self", L + 1)]) ["self"] S hA (lk395 _) rfl rfl (by kernel_rfl) (by kernel_rfl) (fun L => by kernel_rfl) (fun L => rfl) (by decide +kernel)
    (fun y => if y = "self" then some (.ref sv) else none) (fun y => if y = "node" then some (.ref x) else none) (by kernel_rfl) (by kernel_rfl) fun A' L s' E' hA' V hc S => ?_
  change wpAny _ A' (execs (fnB (stB 20 4)) (e395 w L)) _ _ _
  have S : St w O I ((L, .ns fun y => if y = "node" then some (.ref x) else none) :: (L + 1, .ce (some (.ref sv))) :: (vz sv dv wd tw lv t ++ p)) s' := S
  refine wpAny_execs_cons ?_
  refine wpAny_AugAssign_AttributeAny ?_
  refine nC (i := 1) S V.knd (by kernel_rfl) (by kernel_rfl) rfl ?_ (by decide +kernel)
  refine getA S (S.hi (i := 2) (j := 3) rfl rfl) (v := .int lv t) (by rfl) (by kernel_rfl) rfl fun s₂ S => ?_
  refine cI S ?_; intro s₃ t₃ S
  refine PyProof.Rows.iadd_int ?_
  have S := S.toks (t := s₃.toks + 1)
  refine setA2 (i := 2) (j := 3) S rfl rfl (by kernel_rfl) (by decide) (by rfl) fun s₅ S => ?_
  rw [visM_upd] at S
  have S : St w O I ((L, .ns fun y => if y = "node" then some (.ref x) else none) :: (L + 1, .ce (some (.ref sv))) :: (vz sv dv wd tw (lv + 1) s₃.toks ++ p)) s₅ := S
  refine wpAny_execs_cons ?_
  refine wpAny_Assign_Name ?_
  refine callF (v := .ref 357) S V (by kernel_rfl) (gl12 _) (by kernel_rfl) (by decide +kernel) ?_
  refine wpAny_items_cons ?_
  refine methodCall_KW ?_
  refine cS S fun s₆ t₆ S => ?_
  refine GM.join ?_
  refine strM ?_
  refine wpAny_items_cons ?_
  refine listComp (O := O) hA' V (cl := [("self", L + 1)]) rfl (by kernel_rfl) (by kernel_rfl) (by decide +kernel) (by kernel_rfl) ?_
  refine Attribute_any_ ?_
  refine nL S V (by kernel_rfl) (by with_unfolding_all rfl) ?_ (by decide +kernel)
  refine getA S (H.at S) hb (by kernel_rfl) rfl fun s₇ S => ?_
  refine ⟨bl, I, _, items, (fun j I' ms' acc => I' = I ∧ ∃ t', ms' = ((L, .ns fun y => if y = "node" then some (.ref x) else none) :: (L + 1, .ce (some (.ref sv))) :: (vz sv dv wd tw (lv + 1) t' ++ p)) ∧ TL acc (outs.take j)), rfl, S, hl.lst S, ⟨rfl, s₃.toks, rfl, TL.nil⟩, ?_, ?_, by (clear hz hw0 hw1 ho hlv hlv2; (first | lia | omega)), ?_, ?_⟩
  · rintro j I' ms' acc pp s ⟨rfl, _⟩ S; exact hl.lst S
  · rintro j I' ms' acc ⟨_, _, _, ht⟩
    rw [ht.size, List.length_take]; exact Nat.min_le_left _ _
  · rintro j v I' ms' acc C D' it m s₃ E₁ hv ⟨rfl, t', rfl, hacc⟩ hm S
    obtain ⟨o, hoj, hV⟩ := h j v hv
    have htk : outs.take (j + 1) = outs.take j ++ [o] := by rw [List.take_add_one, hoj]; rfl
    have V' := compOk (scope := (match (fnB (stB 20 4))[1]? with | some (Stmt.Assign _ (.Call _ (.Call _ [.ListComp _ _ sc _] _ _ :: _) _ _) _) => sc | _ => default)) (cl := [("self", L + 1)]) (C := C) V (by kernel_rfl)
    rw [List.forIn_nil]
    refine wpAny_pure ?_
    rw [if_pos rfl]
    refine methodCall_KW ?_
    refine nC (i := 4) S (by kernel_rfl) (by kernel_rfl) (by kernel_rfl) rfl ?_ (by decide +kernel)
    refine metA S (S.hi (i := 5) (j := 6) rfl rfl) (by rfl) (f := 376) (by kernel_rfl) ?_
    refine callWith_K (first := [.ref sv]) S.kin (by kernel_rfl) ?_
    refine wpAny_items_cons ?_
    refine nL S V' (by kernel_rfl) hm ?_ (by decide +kernel)
    refine wpAny_items_nil ⟨S.kin, wpAny_call ?_⟩
    have S := St.mid [_, _, _, _, _] (vz sv dv wd tw (lv + 1) t') S
    refine hV _ _ _ _ _ _ (hA'.le (by (clear hz hz2 hw0 hw1 ho hlv hlv2; (first | lia | omega)))) S fun s₆ t'' u S => ?_
    have S := St.mid (vz sv dv wd tw (lv + 1) t'') [_, _, _, _, _] S
    exact ⟨I', _, S, rfl, t'', rfl, by rw [htk]; exact hacc.push⟩
  · rintro I' ms' acc D' s₃ ⟨rfl, t', rfl, hacc⟩ S
    rw [hz, List.take_length] at hacc
    refine wpAny_items_nil ?_
    refine joinS (i := 0) S rfl hacc hj fun s₄ t₄ S => ?_
    have S := S.tail
    refine wpAny_items_cons ?_
    refine wpAny_BinOp ?_
    refine cS S fun s₅ t₅ S => ?_
    refine wpAny_IfExp ?_
    refine wpAny_isTrue_Compare1 ?_
    refine Attribute_any_ ?_
    refine nC (i := 1) S V.knd (by kernel_rfl) (by kernel_rfl) rfl ?_ (by decide +kernel)
    refine getA S (S.hi (i := 2) (j := 3) rfl rfl) (v := .int (lv + 1) t') (by rfl) (by kernel_rfl) rfl fun s₈ S => ?_
    refine cI S ?_; intro s₉ t₉ S
    refine gt_int ?_
    refine wpAny_truthy_bool ?_
    have rest : ∀ (k : Int) tk s₁₀, k = ind0 wd lv → St w O I' ((L, .ns fun y => if y = "node" then some (.ref x) else none) :: (L + 1, .ce (some (.ref sv))) :: (vz sv dv wd tw (lv + 1) t' ++ p)) s₁₀ →
        wpAny (model PG w) A' (binaryOp .Mult (.str " " t₅) (.int k tk)) (fun v s => ∃ u, v = .str (Txt.mul " " (ind0 wd lv)) u ∧ St w O I' ((L, .ns fun y => if y = "node" then some (.ref x) else none) :: (L + 1, .ce (some (.ref sv))) :: (vz sv dv wd tw (lv + 1) t' ++ p)) s) E' s₁₀ := by
      rintro k tk s₁₀ rfl S
      have : 0 ≤ ind0 wd lv ∧ ind0 wd lv ≤ 100 := by unfold ind0; split <;> (clear hz hz2 ho hlv hlv2; (first | lia | omega))
      exact SB.mul (mulOk_of 1 100 (by decide +kernel) (by (clear hz hz2 hw0 hw1 ho hlv hlv2; (first | lia | omega))) (by (clear hz hz2 hw0 hw1 ho hlv hlv2; (first | lia | omega))) (by decide) (by decide)) fun u k => ⟨u, rfl, S.toks⟩
    have hp : (Txt.mul (" " : Str) (ind0 wd lv)).length ≤ 1000 := by
      have : 0 ≤ ind0 wd lv ∧ ind0 wd lv ≤ 100 := by unfold ind0; split <;> (clear hz hz2 ho hlv hlv2; (first | lia | omega))
      have := PyProof.Rows.len_mul_leN (x := (" " : Str)) (L := 1) (N := 100) (n := ind0 wd lv) (by decide +kernel) (by (clear hz hz2 hw0 hw1 ho hlv hlv2; (first | lia | omega)))
      (clear hz hz2 hw0 hw1 ho hlv hlv2; (first | lia | omega))
    have rest2 : ∀ (pp : Pos) (v : Value) s₁₀, (∃ u, v = .str (Txt.mul " " (ind0 wd lv)) u ∧ St w O I' ((L, .ns fun y => if y = "node" then some (.ref x) else none) :: (L + 1, .ce (some (.ref sv))) :: (vz sv dv wd tw (lv + 1) t' ++ p)) s₁₀) →
        wpAny (model PG w) A' (spliced (backTo pp (starEach [] (e395 w L)))) (fun vs s₁ => (K0 w.params).In s₁.heap ∧ wpAny (model PG w) A' (call (.ref 357) (.str (Txt.join ("\n" : Str) outs) t₄ :: v :: vs)) (fun v s₂ => wpAny (model PG w) A' (storeName (e395 w L) "output" v) (fun _ s₃ =>
          wpAny (model PG w) A' (execs ((fnB (stB 20 4)).drop 2) (e395 w L)) (fun fl s'' => Q (match fl with | .ret v => v | _ => .none) s'') E' s₃) E' s₂) E' s₁) E' s₁₀ := by
      rintro pp v s₁₀ ⟨u, rfl, S⟩
      refine wpAny_items_nil ⟨S.kin, wpAny_call (indent_spec (n := n) hA' S ho hp hj2 fun s₁₁ t₁₁ S => ?_)⟩
      refine sL S V (by kernel_rfl) fun s₁₂ S => ?_
      change wpAny _ A' (execs (_ :: _ :: []) (e395 w L)) _ _ _
      refine wpAny_execs_cons ?_
      refine wpAny_AugAssign_AttributeAny ?_
      refine nC (i := 1) S V.knd (by kernel_rfl) (by kernel_rfl) rfl ?_ (by decide +kernel)
      refine getA S (S.hi (i := 2) (j := 3) rfl rfl) (v := .int (lv + 1) t') (by rfl) (by kernel_rfl) rfl fun s₁₃ S => ?_
      refine cI S ?_; intro s₁₄ t₁₄ S
      refine PyProof.Rows.isub_int ?_
      have S := S.toks (t := s₁₄.toks + 1)
      refine setA2 (i := 2) (j := 3) S rfl rfl (by kernel_rfl) (by decide) (by rfl) fun s₁₅ S => ?_
      rw [visM_upd, show lv + 1 - 1 = lv by (clear hz hz2 hw0 hw1 ho hlv hlv2 hp; (first | lia | omega))] at S
      have S : St w O I' ((L, .ns _) :: (L + 1, .ce (some (.ref sv))) :: (vz sv dv wd tw lv s₁₄.toks ++ p)) s₁₅ := S
      refine wpAny_execs_cons (wpAny_Return_some ?_)
      refine nL S V (by kernel_rfl) upd_eq ?_ (by decide +kernel)
      exact fin _ _ _ S.tail.tail
    by_cases hc1 : 1 < lv + 1
    · rw [decide_eq_true hc1, if_pos rfl]
      refine Attribute_any_ ?_
      refine nC (i := 1) S V.knd (by kernel_rfl) (by kernel_rfl) rfl ?_ (by decide +kernel)
      refine getA S (S.hi (i := 2) (j := 3) rfl rfl) (v := .int wd tw) (by rfl) (by kernel_rfl) rfl fun s₁₀ S => ?_
      exact wpAny_mono (rest wd tw s₁₀ (by unfold ind0; rw [if_pos hc1]) S) (rest2 _) fun _ _ y => y
    · rw [decide_eq_false hc1, if_neg Bool.false_ne_true]
      refine cI S ?_; intro s₁₀ t₁₀ S
      exact wpAny_mono (rest 0 t₁₀ s₁₀ (by unfold ind0; rw [if_neg hc1]) S) (rest2 _) fun _ _ y => y
end

end
section
theorem lk828 (P : Params) : (K0 P).lookup 828 = some (ko828 P) := by kernel_rfl
theorem lk371 (P : Params) : (K0 P).lookup 371 = some (ko371 P) := by kernel_rfl
theorem lk835 (P : Params) : (K0 P).lookup 835 = some (ko835 P) := by kernel_rfl
noncomputable abbrev e371 (w : World) (L : Addr) : Env := callEnv (fdOf (ko371 w.params)) L 371
noncomputable abbrev e835 (w : World) (L : Addr) : Env := callEnv (fdOf (ko835 w.params)) L 835
section
variable {w : World} {O : OsState} {A : Around} {E : Value → Shared → Prop} {s : Shared} {I : Im} {ms : Ms} {L : Addr} {env : Env} {pos : Pos}
theorem callK0 {f : Str} {v : Value} {np : Pos} {kws : List Keyword} {Q : Value → Shared → Prop} (S : St w O I ms s) (V : EnvOk env L) (hx : env.kindOf f = some .globalImplicit) (hv : nsIn (K0 w.params) mainGlobals f = some (some v)) (hk : keepIn (K0 w.params) v = true) (hd : (f == ("__debug__" : Str)) = false)
    (hall : (backToKw pos (keywordEach kws env)).all (·.1.isSome) = true)
    (h : wpAny (model PG w) A (evalAll ((backToKw pos (keywordEach kws env)).map (·.2)))
      (fun ks s₂ => (K0 w.params).In s₂.heap ∧ wpAny (model PG w) A (call v [] (((backToKw pos (keywordEach kws env)).filterMap (·.1)).zip ks)) Q E s₂) E s)
    (hplain : ((backTo pos (starEach [] env)).any (·.1) || (backToKw pos (keywordEach kws env)).any (·.1.isNone)) = false := by rfl) :
    wpAny (model PG w) A (eval (.Call (.Name f np) [] kws pos) env) Q E s :=
  wpAny_Call_Name_kw (nG S V hx hv (callWith_KW0 (first := []) S.kin hk hall h hplain) hd)
end
section
variable {w : World} {O : OsState} {A : Around} {E : Value → Shared → Prop} {s : Shared} {I : Im} {ms : Ms} {wd : Int} {tw : Tok} {n : Nat} {rv : Value} {out : Str} {Q : Value → Shared → Prop}
theorem newVis (hA : Ok A (n + 2)) (S : St w O I ms s) (q : ∀ s' sv dv t, St w O I ((sv, .ob (instObj 823 dv)) :: (dv, .dc (visM wd tw 0 t) 2) :: ms) s' → Q (.ref sv) s') :
    codeAny (model PG w) A (.call (.ref 823) ⟨[], [("indent_size", .int wd tw)]⟩) (wants Q E) s := by
  refine newC (fI := 371) (n := n + 1) S hA (by kernel_rfl) fun A' s' x dx hA' S => ?_
  refine enter (n := n) (binds := [("self", .ref x), ("indent_size", .int wd tw)]) S hA' (lk371 _) rfl rfl (by kernel_rfl) (.of_eq (by kernel_rfl)) fun A' L s' E' hA' V S => ?_
  change wpAny _ A' (execs (fnB (stB 20 0)) (e371 w L)) _ _ _
  refine wpAny_execs_cons ?_
  ((with_reducible show wpAny _ _ (exec (.Assign [.Attribute _ _ _] _ _) _) _ _ _); refine plainObj_wpAny_Assign_Attribute ?_)
  ((with_reducible show wpAny _ _ (eval (.Name _ _) _) _ _ _); refine nL (by assumption) (by assumption) (by kernel_rfl) (by first | with_unfolding_all rfl | with_unfolding_all assumption) ?_ (by decide +kernel))
  ((with_reducible show wpAny _ _ (eval (.Name _ _) _) _ _ _); refine nL (by assumption) (by assumption) (by kernel_rfl) (by first | with_unfolding_all rfl | with_unfolding_all assumption) ?_ (by decide +kernel))
  dsimp only
  refine setA (i := 1) (j := 2) (by assumption) (by rfl) (by rfl) (by kernel_rfl) (by (first | lia | omega)) ?_; intro _ _
  with_reducible refine wpAny_execs_cons ?_
  ((with_reducible show wpAny _ _ (exec (.Assign [.Attribute _ _ _] _ _) _) _ _ _); refine plainObj_wpAny_Assign_Attribute ?_)
  (with_reducible refine cI (by assumption) ?_; intro _ _ _)
  ((with_reducible show wpAny _ _ (eval (.Name _ _) _) _ _ _); refine nL (by assumption) (by assumption) (by kernel_rfl) (by first | with_unfolding_all rfl | with_unfolding_all assumption) ?_ (by decide +kernel))
  dsimp only
  refine setA (i := 1) (j := 2) (by assumption) (by rfl) (by rfl) (by kernel_rfl) (by (first | lia | omega)) ?_; intro _ _
  with_reducible refine wpAny_execs_nil ?_
  dsimp only
  rename_i S
  have e : ∀ t, upd (upd (fun _ => none) "_indent_size" (.int wd tw)) "_level" (.int 0 t) = visM wd tw 0 t := by
    intro t; funext y; unfold upd visM
    by_cases h : y = "_level"
    · rw [if_pos h]
    · rw [if_neg h]
  have S := S.tail
  exact ⟨rfl, q _ x dx _ (by rw [← e]; exact S)⟩
theorem source_spec (hA : Ok A (n + 3)) (S : St w O I ((373, .tb) :: ms) s) (h : ∀ sv dv, VC w O I sv dv wd tw (n + 2) 376 rv 0 out) (q : ∀ s' u, St w O I ((373, .tb) :: ms) s' → Q (.str out u) s') :
    codeAny (model PG w) A (.call (.ref 835) ⟨[rv, .int wd tw], []⟩) (wants Q E) s := by
  refine enter (n := n + 2) (binds := [("root", rv), ("indent", .int wd tw)]) S hA (lk835 _) rfl rfl (by kernel_rfl) (binds_K S.kin rfl (lk828 _) rfl rfl rfl) fun A' L s' E' hA' V S => ?_
  change wpAny _ A' (execs (fnB (stA 22)) (e835 w L)) _ _ _
  refine wpAny_execs_cons ?_
  refine wpAny_Return_some ?_
  refine methodCall_KW ?_
  refine callK0 (v := .ref 823) S V (by kernel_rfl) (gl10 _) (by kernel_rfl) (by decide +kernel) (by rfl) ?_
  refine wpAny_evalAll_cons (wpAny_bind ?_)
  refine nL (by assumption) (by assumption) (by kernel_rfl) (by first | with_unfolding_all rfl | with_unfolding_all assumption) ?_ (by decide +kernel)
  refine wpAny_bind (wpAny_standAt (wpAny_pure (wpAny_evalAll_nil ?_)))
  refine ⟨S.kin, wpAny_call (newVis (wd := wd) (tw := tw) (n := n) hA' S fun s₂ sv dv t S => ?_)⟩
  refine metA S (S.hi (i := 0) (j := 1) rfl rfl) (by rfl) (f := 376) (by kernel_rfl) ?_
  refine callWith_K (first := [.ref sv]) S.kin (by kernel_rfl) ?_
  have S := St.mid [_, _] [_] S
  refine wpAny_items_cons ?_
  refine nL S V (by kernel_rfl) (by with_unfolding_all rfl) ?_ (by decide +kernel)
  refine wpAny_items_nil ⟨S.kin, wpAny_call ?_⟩
  have S : St w O I ([_] ++ (vz sv dv wd tw 0 t ++ ms)) s₂ := S
  have S := St.mid [_] (vz sv dv wd tw 0 t) S
  refine h _ _ _ _ _ _ _ _ hA' S fun s₆ t' u S => ?_
  have S : St w O I ([_, _] ++ ([_, _] ++ ms)) s₆ := S
  have S := S.tail.tail
  have S := St.mid [_] [_] S
  exact q _ _ S.tail
end

end
section
/- plain law: lines of a joined text -/
noncomputable def NB (x : Str) : Prop := ∀ c ∈ x.cps.toList, Unicode.isLineBreak c = false
/-- a text that begins with no blank and has no break -/
noncomputable def Ln (u : Str) : Prop := NB u ∧ ∃ c r, u.cps.toList = c :: r ∧ Unicode.isSpace c = false
noncomputable def bl (k : Nat) : Str := ⟨(List.replicate k 32).toArray⟩
noncomputable def Li (l : Str) : Prop := ∃ k u, l = bl k ++ u ∧ Ln u
theorem nb_app {a b : Str} (ha : NB a) (hb : NB b) : NB (a ++ b) := by
  intro c hc
  rw [Str.cps_append, Array.toList_append, List.mem_append] at hc
  exact hc.elim (ha c) (hb c)
theorem nb_bl (k : Nat) : NB (bl k) := by
  intro c hc
  have : c = 32 := List.eq_of_mem_replicate (n := k) (by simpa [bl] using hc)
  subst this; decide +kernel
theorem Li.nb {l : Str} (h : Li l) : NB l := by obtain ⟨k, u, rfl, h, _⟩ := h; exact nb_app (nb_bl k) h
theorem Ln.app {u v : Str} (h : Ln u) (hv : NB v) : Ln (u ++ v) := by
  obtain ⟨h, c, r, e, hc⟩ := h
  exact ⟨nb_app h hv, c, r ++ v.cps.toList, by rw [Str.cps_append, Array.toList_append, e]; rfl, hc⟩
theorem bl_add (a b : Nat) : bl (a + b) = bl a ++ bl b := Str.ext' (by
  rw [Str.cps_append]; apply Array.toList_inj.mp; simp [bl, List.replicate_append_replicate])
theorem bl_zero : bl 0 = (⟨#[]⟩ : Str) := rfl
theorem nil_app (u : Str) : (⟨#[]⟩ : Str) ++ u = u := Str.ext' (by simp [Str.cps_append])
theorem bl_len (k : Nat) : (bl k).length = k := by simp [bl, Str.length]
theorem Ln.li {u : Str} (h : Ln u) : Li u := ⟨0, u, by rw [bl_zero, nil_app], h⟩
theorem Li.ind {l : Str} (k : Nat) (h : Li l) : Li (bl k ++ l) := by
  obtain ⟨j, u, rfl, h⟩ := h
  exact ⟨k + j, u, by rw [bl_add, Str.append_assoc], h⟩
theorem Li.pos {l : Str} (h : Li l) : ∃ k, k < l.length ∧ Unicode.isSpace (l.cps.getD k 0) = false := by
  obtain ⟨k, u, rfl, _, c, r, e, hc⟩ := h
  have hl : u.length = r.length + 1 := by rw [show u.length = u.cps.toList.length from by simp [Str.length], e]; rfl
  refine ⟨k, by rw [Str.length_append', bl_len]; (first | lia | omega), ?_⟩
  rw [← PyProof.Rows.getD_list, Str.cps_append, Array.toList_append, e]
  simpa [bl, List.getD] using hc
theorem strip_ne {x : Str} {k : Nat} (hk : k < x.length) (h : Unicode.isSpace (x.cps.getD k 0) = false) : (Txt.strip x).length ≠ 0 := by
  unfold Txt.strip
  rw [PyProof.Rows.stripBy_eq]
  obtain ⟨l1, l2, _⟩ := PyProof.Rows.lo_facts Unicode.isSpace x
  obtain ⟨h1, h2, h3, _⟩ := PyProof.Rows.hi_facts Unicode.isSpace x _ l1
  have a1 : PySem.stripLo Unicode.isSpace true x ≤ k := by
    rcases Nat.lt_or_ge k (PySem.stripLo Unicode.isSpace true x) with q | q
    · rw [l2 k q] at h; cases h
    · exact q
  have a2 : k < PySem.stripHi Unicode.isSpace true x (PySem.stripLo Unicode.isSpace true x) := by
    rcases Nat.lt_or_ge k (PySem.stripHi Unicode.isSpace true x (PySem.stripLo Unicode.isSpace true x)) with q | q
    · exact q
    · rw [h3 k q hk] at h; cases h
  have : x.cps.size = x.length := rfl
  show (x.cps.extract _ _).size ≠ 0
  rw [Array.size_extract]; (clear hk l1; (first | lia | omega))
theorem inL_li {p l : Str} (h : Li l) (e : Str) : inL p (l ++ e) = p ++ (l ++ e) := by
  obtain ⟨k, hk, hs⟩ := h.pos
  unfold inL
  rw [if_neg (strip_ne (k := k) (by rw [Str.length_append']; (first | lia | omega)) ?_)]
  rw [← PyProof.Rows.getD_list, Str.cps_append, Array.toList_append]
  rw [← PyProof.Rows.getD_list] at hs
  have hk : k < l.cps.toList.length := by simpa [Str.length] using hk
  rw [List.getD, List.getElem?_append_left hk]; exact hs
noncomputable def spansL : Nat → List Str → List (Nat × Nat × Nat)
  | _, [] => []
  | a, l :: r => match r with
    | [] => [(a, a + l.length, a + l.length)]
    | _ :: _ => (a, a + l.length, a + l.length + 1) :: spansL (a + l.length + 1) r
noncomputable def lsStep (s : Str) (st : StrLaws.LsSt) (i : Nat) : StrLaws.LsSt :=
  if (decide (st.snd ≤ i) && Unicode.isLineBreak (s.cps.getD i 0)) = true then (st.fst.push (st.snd, i, StrLaws.lsNext s i), StrLaws.lsNext s i) else st
theorem ls_fold (s : Str) : ∀ (l : List Nat) (st : StrLaws.LsSt), Id.run (forIn (m := Id) l st (StrLaws.lsBody s)) = l.foldl (lsStep s) st
  | [], st => rfl
  | a :: l, st => by
    rw [List.forIn_cons]
    have e : StrLaws.lsBody s a st = pure (ForInStep.yield (lsStep s st a)) := by
      unfold StrLaws.lsBody lsStep; split <;> rfl
    rw [e]
    exact ls_fold s l _
theorem ls_quiet (s : Str) : ∀ (m cur : Nat) (st : StrLaws.LsSt), (∀ i, cur ≤ i → i < cur + m → Unicode.isLineBreak (s.cps.getD i 0) = false) → (List.range' cur m).foldl (lsStep s) st = st
  | 0, _, _, _ => rfl
  | m + 1, cur, st, h => by
    rw [List.range'_succ, List.foldl_cons]
    have e : lsStep s st cur = st := by
      unfold lsStep; rw [h cur (Nat.le_refl _) (by (first | lia | omega)), Bool.and_false, if_neg Bool.false_ne_true]
    rw [e]
    exact ls_quiet s m (cur + 1) st fun i h1 h2 => h i (by (clear h2; (first | lia | omega))) (by (clear h1; (first | lia | omega)))
theorem nlc : ("\n" : Str).cps.toList = [10] := by decide +kernel
theorem sjoin_cons (sep l : Str) : ∀ r, r ≠ [] → Str.join sep (l :: r) = l ++ sep ++ Str.join sep r
  | [], h => absurd rfl h
  | _ :: _, _ => rfl
theorem ls_lines (s : Str) : ∀ (ls : List Str) (l : Str) (pre : List Nat) (acc : Array (Nat × Nat × Nat)), (∀ y ∈ l :: ls, NB y ∧ 0 < y.length) → s.cps.toList = pre ++ (Str.join ("\n" : Str) (l :: ls)).cps.toList →
    StrLaws.lsEnd s ((List.range' pre.length (s.length - pre.length)).foldl (lsStep s) (acc, pre.length)) = acc.toList ++ spansL pre.length (l :: ls)
  | [], l, pre, acc, h, e => by
    have e : s.cps.toList = pre ++ l.cps.toList := e
    have hl : s.length = pre.length + l.length := by
      have := congrArg List.length e
      rw [List.length_append] at this
      simpa [Str.length] using this
    obtain ⟨h1, h2⟩ := h l (.head _)
    rw [ls_quiet]
    · unfold StrLaws.lsEnd
      rw [if_pos (show pre.length < s.length by (first | lia | omega))]
      simp [spansL, hl]
    · intro i q1 q2
      rw [← PyProof.Rows.getD_list, e, List.getD, List.getElem?_append_right q1]
      have q : i - pre.length < l.cps.toList.length := by simp [Str.length] at hl ⊢; simp [Str.length] at q2; (clear h2; (first | lia | omega))
      rw [List.getElem?_eq_getElem q]
      exact h1 _ (List.getElem_mem q)
  | m :: r, l, pre, acc, h, e => by
    have e : s.cps.toList = pre ++ (l ++ ("\n" : Str) ++ Str.join ("\n" : Str) (m :: r)).cps.toList := e
    simp only [Str.cps_append, Array.toList_append, nlc] at e
    have hll : l.cps.toList.length = l.length := by simp [Str.length]
    have hl : s.length = pre.length + l.length + 1 + (Str.join ("\n" : Str) (m :: r)).cps.toList.length := by
      have := congrArg List.length e
      simp only [List.length_append, List.length_cons, List.length_nil] at this
      have z : s.length = s.cps.toList.length := by simp [Str.length]
      (first | lia | omega)
    obtain ⟨h1, h2⟩ := h l (.head _)
    have e3 : s.length - pre.length = l.length + (1 + (s.length - (pre.length + l.length + 1))) := by (clear hll; (first | lia | omega))
    rw [e3, ← List.range'_append_1, List.foldl_append, ← List.range'_append_1, List.foldl_append, ls_quiet s l.length pre.length]
    · have hc : s.cps.getD (pre.length + l.length) 0 = 10 := by
        rw [← PyProof.Rows.getD_list, e, List.getD, List.getElem?_append_right (by (clear hll; (first | lia | omega))), List.getElem?_append_left (by simp [hll]), List.getElem?_append_right (by (first | lia | omega))]
        simp [hll]
      have hn : StrLaws.lsNext s (pre.length + l.length) = pre.length + l.length + 1 := by
        unfold StrLaws.lsNext; rw [hc]; rfl
      have hb : Unicode.isLineBreak 10 = true := by decide +kernel
      have st : lsStep s (acc, pre.length) (pre.length + l.length) = (acc.push (pre.length, pre.length + l.length, pre.length + l.length + 1), pre.length + l.length + 1) := by
        unfold lsStep
        rw [hc, hn, hb, if_pos (by simp)]
      rw [show List.range' (pre.length + l.length) 1 = [pre.length + l.length] from rfl, List.foldl_cons, List.foldl_nil, st]
      have ih := ls_lines s r m (pre ++ (l.cps.toList ++ [10])) (acc.push (pre.length, pre.length + l.length, pre.length + l.length + 1)) (fun y hy => h y (.tail _ hy)) (by rw [e]; simp)
      have e5 : (pre ++ (l.cps.toList ++ [10])).length = pre.length + l.length + 1 := by simp [Str.length]; (clear hll hl h2 e3 hc hn; (first | lia | omega))
      rw [e5] at ih
      rw [ih]
      simp [spansL]
    · intro i q1 q2
      rw [← PyProof.Rows.getD_list, e, List.getD, List.getElem?_append_right q1]
      have q : i - pre.length < l.cps.toList.length := by (clear h2; (first | lia | omega))
      rw [List.append_assoc, List.getElem?_append_left q, List.getElem?_eq_getElem q]
      exact h1 _ (List.getElem_mem q)

end
section
open PySem.Builtin PySem.Builtin.Str
theorem ls_join {ls : List Str} (h : ∀ y ∈ ls, NB y ∧ 0 < y.length) : Builtin.Str.lineSpans (Str.join ("\n" : Str) ls) = spansL 0 ls := by
  rw [StrLaws.ls_eq, ls_fold]
  cases ls with
  | nil => rfl
  | cons l r =>
    have := ls_lines (Str.join ("\n" : Str) (l :: r)) r l [] #[] h (by simp)
    simpa using this
/-- the lines with their breaks -/
noncomputable def keepL : List Str → List Str
  | [] => []
  | l :: r => match r with
    | [] => [l]
    | _ :: _ => (l ++ ("\n" : Str)) :: keepL r
theorem sub_mid {x : Str} {pre m suf : List Nat} {j : Nat} (e : x.cps.toList = pre ++ (m ++ suf)) (hj : j = pre.length + m.length) : strSub x pre.length j = ⟨m.toArray⟩ := Str.ext' (by
  apply Array.toList_inj.mp
  rw [StrLaws.strSub_toList, e, hj]
  simp)
theorem spans_sub (s : Str) : ∀ (ls : List Str) (l : Str) (pre : List Nat), s.cps.toList = pre ++ (Str.join ("\n" : Str) (l :: ls)).cps.toList →
    (spansL pre.length (l :: ls)).map (fun p => strSub s p.1 p.2.2) = keepL (l :: ls)
  | [], l, pre, e => by
    have e : s.cps.toList = pre ++ (l.cps.toList ++ []) := by rw [List.append_nil]; exact e
    show [strSub s pre.length (pre.length + l.length)] = [l]
    rw [sub_mid e (by simp [Str.length])]
  | m :: r, l, pre, e => by
    have e : s.cps.toList = pre ++ (l ++ ("\n" : Str) ++ Str.join ("\n" : Str) (m :: r)).cps.toList := e
    show strSub s pre.length (pre.length + l.length + 1) :: (spansL (pre.length + l.length + 1) (m :: r)).map _ = (l ++ ("\n" : Str)) :: keepL (m :: r)
    rw [Str.cps_append, Array.toList_append] at e
    have z : (l ++ ("\n" : Str)).cps.toList.length = l.length + 1 := by
      have e1 : ("\n" : Str).length = 1 := by decide +kernel
      have := Str.length_append' l "\n"
      simp only [Str.length, Array.length_toList] at *
      (first | lia | omega)
    rw [sub_mid e (by (first | lia | omega))]
    have ih := spans_sub s r m (pre ++ (l ++ ("\n" : Str)).cps.toList) (by rw [e, List.append_assoc])
    rw [List.length_append, z, ← Nat.add_assoc] at ih
    rw [ih]
theorem kLines_join {ls : List Str} (h : ∀ y ∈ ls, NB y ∧ 0 < y.length) : kLines (Str.join ("\n" : Str) ls) = keepL ls := by
  have e : (kCuts (Str.join ("\n" : Str) ls)).map (fun (p : Nat × Nat) => strSub (Str.join ("\n" : Str) ls) p.1 p.2) = keepL ls := by
    unfold kCuts
    rw [ls_join h, List.map_map]
    cases ls with
    | nil => rfl
    | cons l r => exact spans_sub _ r l [] (by simp)
  unfold kLines
  split
  · rename_i q
    have q := eq_of_beq q
    rw [q] at e
    rw [← e]
    simp [StrLaws.sub_whole]
  · exact e
theorem keep_join {p : Str} : ∀ (ls : List Str), (∀ l ∈ ls, Li l) → Str.join "" ((keepL ls).map (inL p)) = Str.join ("\n" : Str) (ls.map (p ++ ·))
  | [], _ => rfl
  | [l], h => by
    show inL p l = p ++ l
    have := inL_li (p := p) (h l (.head _)) ⟨#[]⟩
    have z : l ++ (⟨#[]⟩ : Str) = l := Str.ext' (by simp [Str.cps_append])
    rwa [z] at this
  | l :: m :: r, h => by
    have ih := keep_join (p := p) (m :: r) fun y hy => h y (.tail _ hy)
    have hne : (keepL (m :: r)).map (inL p) ≠ [] := by cases r <;> simp [keepL]
    show Str.join "" (inL p (l ++ ("\n" : Str)) :: (keepL (m :: r)).map (inL p)) = (p ++ l) ++ ("\n" : Str) ++ Str.join ("\n" : Str) ((m :: r).map (p ++ ·))
    rw [sjoin_cons _ _ _ hne, ih, inL_li (h l (.head _))]
    have z : ∀ u : Str, u ++ ("" : Str) = u := fun u => Str.ext' (by rw [Str.cps_append]; exact Array.append_empty)
    rw [z, ← Str.append_assoc]
theorem Li.good {l : Str} (h : Li l) : NB l ∧ 0 < l.length := ⟨h.nb, by obtain ⟨k, hk, _⟩ := h.pos; (first | lia | omega)⟩
theorem indS_join {p : Str} {ls : List Str} (h : ∀ l ∈ ls, Li l) : indS (Str.join ("\n" : Str) ls) p = Str.join ("\n" : Str) (ls.map (p ++ ·)) := by
  unfold indS Txt.join
  rw [StrLaws.glued_eq_join, kLines_join fun y hy => (h y hy).good]
  exact keep_join ls h
theorem join_snoc (sep : Str) : ∀ (ls : List Str) (a : Str), ls ≠ [] → Str.join sep (ls ++ [a]) = Str.join sep ls ++ sep ++ a
  | [], _, h => absurd rfl h
  | [l], a, _ => rfl
  | l :: m :: r, a, _ => by
    have ih := join_snoc sep (m :: r) a (by simp)
    show l ++ sep ++ Str.join sep ((m :: r) ++ [a]) = l ++ sep ++ Str.join sep (m :: r) ++ sep ++ a
    rw [ih]; simp only [Str.append_assoc]
theorem join_app (sep : Str) : ∀ (ls ms : List Str), ls ≠ [] → ms ≠ [] → Str.join sep (ls ++ ms) = Str.join sep ls ++ sep ++ Str.join sep ms
  | [], _, h, _ => absurd rfl h
  | [l], ms, _, h => by
    show Str.join sep (l :: ms) = _
    rw [sjoin_cons _ _ _ h]; rfl
  | l :: m :: r, ms, _, h => by
    have ih := join_app sep (m :: r) ms (by simp) h
    show l ++ sep ++ Str.join sep ((m :: r) ++ ms) = l ++ sep ++ Str.join sep (m :: r) ++ sep ++ Str.join sep ms
    rw [ih]; simp only [Str.append_assoc]
/-- the last line -/
noncomputable def rStep (s : Str) (st : Array Nat × Nat) (k : Nat) : Array Nat × Nat :=
  if (st.fst.size < 1 ∧ s.length - k + ("\n" : Str).length ≤ st.snd) ∧ Builtin.Str.subAt s "\n" (s.length - k) = true then (st.fst.push (s.length - k), s.length - k) else st
theorem r_fold (s : Str) : ∀ (l : List Nat) (st : Array Nat × Nat), Id.run (forIn (m := Id) l st (StrLaws.occRBody s "\n" 1)) = l.foldl (rStep s) st
  | [], st => rfl
  | a :: l, st => by
    rw [List.forIn_cons]
    have e : StrLaws.occRBody s "\n" 1 a st = pure (ForInStep.yield (rStep s st a)) := by
      unfold StrLaws.occRBody rStep; split <;> rfl
    rw [e]
    exact r_fold s l _
theorem r_quiet (s : Str) : ∀ (m cur : Nat) (st : Array Nat × Nat), (st.fst.size = 1 ∨ ∀ k, cur ≤ k → k < cur + m → Builtin.Str.subAt s "\n" (s.length - k) = false) → (List.range' cur m).foldl (rStep s) st = st
  | 0, _, _, _ => rfl
  | m + 1, cur, st, h => by
    rw [List.range'_succ, List.foldl_cons]
    have e : rStep s st cur = st := by
      unfold rStep
      rw [if_neg]
      rintro ⟨⟨a, b⟩, c⟩
      rcases h with h | h
      · (clear b; (first | lia | omega))
      · rw [h cur (Nat.le_refl _) (by (clear a b; (first | lia | omega)))] at c; cases c
    rw [e]
    exact r_quiet s m (cur + 1) st (h.imp id fun h k h1 h2 => h k (by (clear h2; (first | lia | omega))) (by (clear h1; (first | lia | omega))))
theorem subAt_nl {s : Str} {i : Nat} : Builtin.Str.subAt s "\n" i = (s.cps.toList[i]? == some 10) := by
  rw [StrLaws.subAt_eq, nlc, show ("\n" : Str).length = 1 from by decide +kernel, List.take_one, List.head?_drop]
  cases s.cps.toList[i]? with
  | none => rfl
  | some c => simp
theorem NB.no10 {u : Str} (h : NB u) {i : Nat} : (u.cps.toList[i]? == some 10) = false := by
  cases e : u.cps.toList[i]? with
  | none => rfl
  | some c =>
    have := h c (List.mem_of_getElem? e)
    rw [beq_eq_false_iff_ne]
    intro q
    rw [Option.some.inj q] at this
    revert this; decide +kernel
theorem kind_nl (s : Str) : decide (PySem.Builtin.Str.strKind s < PySem.Builtin.Str.strKind ("\n" : Str)) = false := by
  rw [decide_eq_false_iff_not, show PySem.Builtin.Str.strKind ("\n" : Str) = 1 from by decide +kernel]
  unfold PySem.Builtin.Str.strKind; split
  · (first | lia | omega)
  · split <;> (first | lia | omega)
theorem lastL_one {u : Str} (h : NB u) (hl : 0 < u.length) : lastL u = u := by
  unfold lastL Txt.rsplitMax
  have hn : ("\n" : Str).length = 1 := by decide +kernel
  rw [kind_nl, hn, show decide (u.length < 1) = false from decide_eq_false (by (clear hn; (first | lia | omega))), Bool.or_false, if_neg Bool.false_ne_true]
  have e : Builtin.Str.occurrencesFromRight u "\n" (limitOf u 1) = [] := by
    rw [show limitOf u 1 = 1 from rfl, StrLaws.occR_eq]
    rw [show forIn (List.range' 0 (u.length + 1)) (#[], u.length) (StrLaws.occRBody u "\n" 1) = Id.run (forIn (m := Id) (List.range' 0 (u.length + 1)) (#[], u.length) (StrLaws.occRBody u "\n" 1)) from rfl, r_fold, r_quiet]
    · rfl
    · right; intro k _ _; rw [subAt_nl]; exact h.no10
  rw [e]; rfl
theorem lastL_app {p u : Str} (h : NB u) : lastL (p ++ ("\n" : Str) ++ u) = u := by
  unfold lastL Txt.rsplitMax
  have hn : ("\n" : Str).length = 1 := by decide +kernel
  have hs : (p ++ ("\n" : Str) ++ u).length = p.length + 1 + u.length := by rw [Str.length_append', Str.length_append', hn]
  have hp : p.cps.toList.length = p.length := by simp [Str.length]
  have hu : u.cps.toList.length = u.length := by simp [Str.length]
  have hc : (p ++ ("\n" : Str) ++ u).cps.toList = p.cps.toList ++ ([10] ++ u.cps.toList) := by simp only [Str.cps_append, Array.toList_append, nlc, List.append_assoc]
  generalize hS : p ++ ("\n" : Str) ++ u = S at *
  rw [kind_nl, hn, show decide (S.length < 1) = false from decide_eq_false (by (clear hn; (first | lia | omega))), Bool.or_false, if_neg Bool.false_ne_true]
  have e : Builtin.Str.occurrencesFromRight S "\n" (limitOf S 1) = [p.length] := by
    rw [show limitOf S 1 = 1 from rfl, StrLaws.occR_eq]
    rw [show forIn (List.range' 0 (S.length + 1)) (#[], S.length) (StrLaws.occRBody S "\n" 1) = Id.run (forIn (m := Id) (List.range' 0 (S.length + 1)) (#[], S.length) (StrLaws.occRBody S "\n" 1)) from rfl, r_fold]
    rw [show List.range' 0 (S.length + 1) = List.range' 0 (u.length + 1) ++ (List.range' (0 + (u.length + 1)) 1 ++ List.range' (0 + (u.length + 1) + 1) p.length) by
      rw [List.range'_append_1, List.range'_append_1]; congr 1; (clear hn hp hu; (first | lia | omega)), List.foldl_append, List.foldl_append, r_quiet S (u.length + 1) 0]
    · have st : rStep S (#[], S.length) (0 + (u.length + 1)) = (#[p.length], p.length) := by
        unfold rStep
        have q : S.length - (0 + (u.length + 1)) = p.length := by (clear hn hu; (first | lia | omega))
        rw [q, hn, subAt_nl, hc]
        rw [if_pos]
        · rfl
        · refine ⟨⟨Nat.zero_lt_one, by dsimp only; (clear hn hp; (first | lia | omega))⟩, ?_⟩
          rw [List.getElem?_append_right (by (clear hn hu hs q; (first | lia | omega))), hp, Nat.sub_self]; rfl
      rw [show List.range' (0 + (u.length + 1)) 1 = [0 + (u.length + 1)] from rfl, List.foldl_cons, List.foldl_nil, st, r_quiet]
      · rfl
      · left; rfl
    · right; intro k _ hk
      rw [subAt_nl, hc, List.getElem?_append_right (by (clear hn hu; (first | lia | omega))), List.getElem?_append_right (by rw [List.length_singleton]; (clear hn hu; (first | lia | omega)))]
      exact h.no10
  rw [e]
  show strSub S (p.length + 1) S.length = u
  have := sub_mid (x := S) (pre := p.cps.toList ++ [10]) (m := u.cps.toList) (suf := []) (j := S.length) (by rw [hc]; simp) (by rw [List.length_append, hp, hu, hs]; rfl)
  rw [List.length_append, hp] at this
  exact this

end
section
open PySem.Builtin PySem.Builtin.Str
theorem bl_mul (n : Int) : Txt.mul (" " : Str) n = bl n.toNat := Str.ext' (by
  apply Array.toList_inj.mp
  rw [show (" " : Str) = ⟨#[32]⟩ from by decide +kernel, PyProof.Rows.mul_one_list]
  simp [bl])
theorem Ln.pos {u : Str} (h : Ln u) : 0 < u.length := by
  obtain ⟨_, c, r, e, _⟩ := h
  have : u.length = u.cps.toList.length := by simp [Str.length]
  rw [this, e]; simp
theorem Ln.no32 {u : Str} (h : Ln u) : ∃ c r, u.cps.toList = c :: r ∧ c ≠ 32 := by
  obtain ⟨_, c, r, e, hc⟩ := h
  refine ⟨c, r, e, ?_⟩
  rintro rfl
  revert hc; decide +kernel
theorem takeWhile_bl {p : Nat → Bool} (h32 : p 32 = true) {c : Nat} {r : List Nat} (hc : p c = false) : ∀ k, ((List.replicate k 32 ++ c :: r).takeWhile p).length = k
  | 0 => by simp [hc]
  | k + 1 => by
    rw [List.replicate_succ, List.cons_append, List.takeWhile_cons, if_pos h32, List.length_cons, takeWhile_bl h32 hc k]
theorem preL_bl {k : Nat} {u : Str} (h : Ln u) : preL (bl k ++ u) = bl k := by
  obtain ⟨c, r, e, hc⟩ := h.no32
  have hl : (bl k ++ u).length = k + u.length := by rw [Str.length_append', bl_len]
  have hct : (bl k ++ u).cps.toList = List.replicate k 32 ++ c :: r := by rw [Str.cps_append, Array.toList_append, e]; simp [bl]
  have h1 : (Txt.lstripChars (bl k ++ u) " ").length = u.length := by
    unfold Txt.lstripChars
    rw [PyProof.Rows.stripBy_eq]
    have lo : PySem.stripLo (" " : Str).cps.contains true (bl k ++ u) = k := by
      unfold PySem.stripLo
      rw [if_pos rfl, hct]
      exact takeWhile_bl (by decide +kernel) (by
        rw [show (" " : Str).cps = #[32] from by decide +kernel]
        simpa using hc) k
    rw [lo]
    show ((bl k ++ u).cps.extract k (bl k ++ u).length).size = _
    rw [Array.size_extract]
    have : (bl k ++ u).cps.size = (bl k ++ u).length := rfl
    (clear hc; (first | lia | omega))
  unfold preL
  rw [h1, hl]
  show StrLaws.sliceText (bl k ++ u) none (some _) = bl k
  have hz : (bl k ++ u).cps.toList.length = k + u.length := by rw [← hl]; simp [Str.length]
  rw [StrLaws.sliceText_to ⟨by (clear hc hl; (first | lia | omega)), by rw [hz]; (clear hc hl hz; (first | lia | omega))⟩]
  apply Str.ext'
  apply Array.toList_inj.mp
  rw [hct, show ((((k + u.length : Nat) : Int) - u.length) - 0).toNat = k by (clear hc hl; (first | lia | omega))]
  simp [bl]
noncomputable def lastB (u : Str) (c1 : List Str) : Str := c1.foldl (fun l t => (l ++ (" " : Str)) ++ t) u
theorem lastB_app (a : Str) : ∀ (c1 : List Str) (u : Str), lastB (a ++ u) c1 = a ++ lastB u c1
  | [], _ => rfl
  | t :: r, u => by
    show lastB (((a ++ u) ++ (" " : Str)) ++ t) r = a ++ lastB ((u ++ (" " : Str)) ++ t) r
    rw [← lastB_app a r, Str.append_assoc, Str.append_assoc, Str.append_assoc]
theorem nb_sp : NB (" " : Str) := by unfold NB; decide +kernel
theorem Ln.lastB : ∀ {c1 : List Str} {u : Str}, Ln u → (∀ t ∈ c1, NB t) → Ln (lastB u c1)
  | [], _, h, _ => h
  | t :: r, _, h, hb => Ln.lastB (c1 := r) ((h.app nb_sp).app (hb t (.head _))) fun y hy => hb y (.tail _ hy)
theorem lastB_join : ∀ (r : List Str) (t u : Str), u ++ ((" " : Str) ++ Str.join (" " : Str) (t :: r)) = lastB u (t :: r)
  | [], t, u => by
    show u ++ ((" " : Str) ++ t) = (u ++ (" " : Str)) ++ t
    rw [Str.append_assoc]
  | m :: r, t, u => by
    have ih := lastB_join r m ((u ++ (" " : Str)) ++ t)
    show u ++ ((" " : Str) ++ (t ++ (" " : Str) ++ Str.join (" " : Str) (m :: r))) = lastB ((u ++ (" " : Str)) ++ t) (m :: r)
    rw [← ih]; simp only [Str.append_assoc]
theorem join_last (sep a b : Str) : ∀ (init : List Str), Str.join sep (init ++ [a]) ++ b = Str.join sep (init ++ [a ++ b])
  | [] => rfl
  | l :: r => by
    rw [join_snoc _ _ _ (by simp), join_snoc _ _ _ (by simp)]
    simp only [Str.append_assoc]
theorem tj (sep : Str) (ls : List Str) : Txt.join sep ls = Str.join sep ls := StrLaws.glued_eq_join sep ls
theorem out1_join {ld : List Com} {as ls : List Str} (h : ld.map (·.1) = as) (hne : ls ≠ []) : out1 ld (Str.join ("\n" : Str) ls) = Str.join ("\n" : Str) (as ++ ls) := by
  subst h
  unfold out1
  split
  · rename_i z; subst z; rfl
  · rename_i z
    rw [tj, join_app _ _ _ (by simpa using z) hne]
theorem out2_join {il : List Com} {c1 init : List Str} {u : Str} (h : il.map (·.1) = c1) : out2 il (Str.join ("\n" : Str) (init ++ [u])) = Str.join ("\n" : Str) (init ++ [lastB u c1]) := by
  subst h
  unfold out2
  split
  · rename_i z; subst z; rfl
  · rename_i z
    cases il with
    | nil => exact absurd rfl z
    | cons c r =>
      rw [tj, join_last]
      exact congrArg (fun y => Str.join ("\n" : Str) (init ++ [y])) (lastB_join (r.map fun x : Com => x.1) c.1 u)
theorem lastL_join {init : List Str} {u : Str} (h : NB u) (hl : 0 < u.length) : lastL (Str.join ("\n" : Str) (init ++ [u])) = u := by
  cases init with
  | nil => exact lastL_one h hl
  | cons l r => rw [join_snoc _ _ _ (by simp)]; exact lastL_app h
theorem out3_join {af : List Com} {c2 init : List Str} {u : Str} {k : Nat} (h : af.map (·.1) = c2) (hu : Ln u) : out3 af (Str.join ("\n" : Str) (init ++ [bl k ++ u])) = Str.join ("\n" : Str) ((init ++ [bl k ++ u]) ++ c2.map (bl k ++ ·)) := by
  subst h
  unfold out3
  split
  · rename_i z; subst z; simp
  · rename_i z
    rw [lastL_join (nb_app (nb_bl k) hu.1) (by rw [Str.length_append']; have := hu.pos; (clear z; (first | lia | omega))), preL_bl hu, tj, join_app _ (init ++ [bl k ++ u]) _ (by simp) (by simpa using z)]
    rw [List.map_map, Str.append_assoc]; rfl
noncomputable def DecoOk (cs : List Com) (li ll : Int) (as c1 c2 : List Str) : Prop := (leadC li cs).map (·.1) = as ∧ (inlC ll (trailC li cs)).map (·.1) = c1 ∧ (aftC ll (trailC li cs)).map (·.1) = c2
theorem deco_join {cs : List Com} {li ll : Int} {as c1 c2 init : List Str} {u : Str} {k : Nat} (h : DecoOk cs li ll as c1 c2) (hu : Ln u) (hc : ∀ t ∈ c1, NB t) :
    deco cs li ll (Str.join ("\n" : Str) (init ++ [bl k ++ u])) = Str.join ("\n" : Str) (as ++ ((init ++ [bl k ++ lastB u c1]) ++ c2.map (bl k ++ ·))) := by
  obtain ⟨h1, h2, h3⟩ := h
  unfold deco
  rw [out1_join h1 (by simp), ← List.append_assoc, out2_join h2, lastB_app, out3_join h3 (hu.lastB hc)]
  simp only [List.append_assoc]

end
section
section
variable {w : World} {O : OsState} {I J : Im} {sv dv : Addr} {wd : Int} {tw : Tok} {n n' : Nat} {f : Addr} {nv : Value} {lv : Int} {out q y : Str} {x C l : Addr} {m : Str → Option Value} {t : Tok}
theorem VC.le (h : VC w O I sv dv wd tw n f nv lv out) (hn : n ≤ n') : VC w O I sv dv wd tw n' f nv lv out :=
  fun A E s p t Q hA S fin => h A E s p t Q (hA.le hn) S fin
theorem tnI (H : IHI I x C m) (e : nameOk (K0 w.params) C q = true) : TN w O I (.ref x) q := fun _ _ _ _ _ S h => typeI (H.at S) (clsName S e fun s' t S => h s' t S)
theorem tnS : TN w O I (.str y t) "str" := fun _ _ _ _ _ S h =>
  call_type_of (Tx := "str") (typeIs_str _ _ _) (by decide +kernel) (nameT (T := "str") (q := "str") S (by decide +kernel) (by decide +kernel) (by kernel_rfl) (by decide +kernel) (by decide +kernel) fun s' t S => h s' t S)
theorem tnL {v : Array Value} (hl : ILst I l v) : TN w O I (.ref l) "list" := fun _ _ _ _ _ S h => by
  obtain ⟨k, e⟩ := hl.at S
  exact call_type_of (Tx := "list") ⟨_, e, rfl⟩ (by decide +kernel) (nameT (T := "list") (q := "list") S (by decide +kernel) (by decide +kernel) (by kernel_rfl) (by decide +kernel) (by decide +kernel) fun s' t S => h s' t S)
theorem niS {D : Addr} (e : isNotIn (K0 w.params) "str" D = true) : NI w O I (.str y t) D := fun _ _ _ _ _ S h => isiS S e fun s' S => h s' S
theorem niL {D : Addr} {v : Array Value} (hl : ILst I l v) (e : isNotIn (K0 w.params) "list" D = true) : NI w O I (.ref l) D := fun _ _ _ _ _ S h => by
  obtain ⟨k, z⟩ := hl.at S
  exact isiL S z rfl e fun s' S => h s' S
theorem doStr : VC w O I sv dv wd tw (n + 4) 376 (.str y t) lv y :=
  doPlain (visit_spec (nm := "visit_str") vStr tnS (by decide +kernel) (by decide +kernel) (by decide +kernel) (by decide +kernel) (by kernel_rfl) (by kernel_rfl) (by decide +kernel) (by decide +kernel)) (niS (by kernel_rfl)) (niS (by kernel_rfl))
theorem doList (hl : ILst I l #[]) : VC w O I sv dv wd tw (n + 4) 376 (.ref l) lv "" :=
  doPlain (visit_spec (nm := "visit_list") (vList hl) (tnL hl) (by decide +kernel) (by decide +kernel) (by decide +kernel) (by decide +kernel) (by kernel_rfl) (by kernel_rfl) (by decide +kernel) (by decide +kernel)) (niL hl (by kernel_rfl)) (niL hl (by kernel_rfl))
theorem kindE (e1 : isIn (K0 w.params) (.ref C) 170 = true) (e2 : m "wrapped" = some (.bool false)) (e3 : attrOk (K0 w.params) C "wrapped" = true) (e4 : isIn (K0 w.params) (.ref C) 124 = true) (e5 : attrOk (K0 w.params) C "comments" = true) : kindOk (K0 w.params) C m := ⟨.inl ⟨e1, e2, e3⟩, e4, e5⟩
theorem kindN (e1 : isiNo (K0 w.params) C 170 = true) (e4 : isIn (K0 w.params) (.ref C) 124 = true) (e5 : attrOk (K0 w.params) C "comments" = true) : kindOk (K0 w.params) C m := ⟨.inr e1, e4, e5⟩
theorem doName {cl : Addr} (H : IHI I x 258 m) (h1 : m "id" = some (.str y t)) (h2 : m "wrapped" = some (.bool false)) (h3 : m "comments" = some (.ref cl)) (hl : ILst I cl #[]) : VC w O I sv dv wd tw (n + 8) 376 (.ref x) lv y :=
  doBare (visit_spec (nm := "visit_Name") (vName (doStr (n := n)) H h1 rfl) (tnI H (q := "Name") (by kernel_rfl)) (by decide +kernel) (by decide +kernel) (by decide +kernel) (by decide +kernel) (by kernel_rfl) (by kernel_rfl) (by decide +kernel) (by decide +kernel)) H (kindE (by kernel_rfl) h2 (by kernel_rfl) (by kernel_rfl) (by kernel_rfl)) h3 hl
/-- a node with its remarks -/
noncomputable def NodeP (w : World) (I : Im) (C x : Addr) (mm : Str → Option Value) (as c1 c2 : List Str) : Prop :=
  ∃ cl cv cs li ll, NodeT w I x C mm li ll ∧ mm "comments" = some (.ref cl) ∧ ILst I cl cv ∧ IComs I cv.toList cs ∧ DecoOk cs li ll as c1 c2 ∧ cs.length ≤ 20 ∧ ∀ c ∈ cs, Ln c.1 ∧ c.1.length ≤ 12
theorem NodeT.le {li ll : Int} (h : NodeT w I x C m li ll) (l : Le I J) : NodeT w J x C m li ll :=
  ⟨h.h.le l, h.k, h.p1, h.p2, h.a1, h.a2, let ⟨v, a, b, c, d⟩ := h.f; ⟨v, a, b, c, d.le l⟩, let ⟨v, c, d⟩ := h.l; ⟨v, c, d.le l⟩⟩
theorem NodeP.le {as c1 c2 : List Str} (h : NodeP w I C x m as c1 c2) (l : Le I J) : NodeP w J C x m as c1 c2 := by
  obtain ⟨cl, cv, cs, li, ll, a, b, c, d, e⟩ := h
  exact ⟨cl, cv, cs, li, ll, a.le l, b, c.le l, d.le l, e⟩
theorem NodeP.h {as c1 c2 : List Str} (h : NodeP w I C x m as c1 c2) : IHI I x C m := by
  obtain ⟨_, _, _, _, _, a, _⟩ := h
  exact a.h
theorem NodeP.ln {as c1 c2 : List Str} (h : NodeP w I C x m as c1 c2) : (∀ t ∈ as, Ln t) ∧ (∀ t ∈ c1, Ln t) ∧ ∀ t ∈ c2, Ln t := by
  obtain ⟨cl, cv, cs, li, ll, _, _, _, _, ⟨rfl, rfl, rfl⟩, _, hb⟩ := h
  refine ⟨fun t ht => ?_, fun t ht => ?_, fun t ht => ?_⟩ <;> obtain ⟨c, hc, rfl⟩ := List.mem_map.mp ht
  · exact (hb c (List.mem_filter.mp hc).1).1
  · exact (hb c (List.mem_filter.mp (List.mem_filter.mp hc).1).1).1
  · exact (hb c (List.mem_filter.mp (List.mem_filter.mp hc).1).1).1
theorem NodeP.do {as c1 c2 init : List Str} {u : Str} {k : Nat} (h : NodeP w I C x m as c1 c2) (hv : VC w O I sv dv wd tw (n + 2) 383 (.ref x) lv (Str.join ("\n" : Str) (init ++ [bl k ++ u]))) (hu : Ln u) (ho : (Str.join ("\n" : Str) (init ++ [bl k ++ u])).length ≤ 50000) :
    VC w O I sv dv wd tw (n + 3) 376 (.ref x) lv (Str.join ("\n" : Str) (as ++ ((init ++ [bl k ++ lastB u c1]) ++ c2.map (bl k ++ ·)))) := by
  have hl := h.ln
  obtain ⟨cl, cv, cs, li, ll, a, b, c, d, e, hz, hb⟩ := h
  rw [← deco_join e hu fun t ht => (hl.2.1 t ht).1]
  exact doNode hv a b c d (by (clear ho hl; (first | lia | omega))) (fun c hc => by have := (hb c hc).2; (clear ho hl hz; (first | lia | omega))) ho
noncomputable def CallH (w : World) (I : Im) (v : Value) (ls : List Str) : Prop :=
  ∃ x mm nx nm ncl al as c1 c2 t, v = .ref x ∧ NodeP w I 336 x mm as c1 c2 ∧ mm "func" = some (.ref nx) ∧ mm "args" = some (.ref al) ∧ ILst I al #[] ∧ IHI I nx 258 nm ∧ nm "id" = some (.str "f" t) ∧ nm "wrapped" = some (.bool false) ∧ nm "comments" = some (.ref ncl) ∧ ILst I ncl #[] ∧
    ls = as ++ (([] ++ [lastB "f()" c1]) ++ c2)
theorem ln_f : Ln ("f()" : Str) := ⟨by unfold NB; decide +kernel, 102, [40, 41], by decide +kernel, by decide +kernel⟩
theorem ln_end : Ln ("end" : Str) := ⟨by unfold NB; decide +kernel, 101, [110, 100], by decide +kernel, by decide +kernel⟩
theorem ln_do : Ln ("do" : Str) := ⟨by unfold NB; decide +kernel, 100, [111], by decide +kernel, by decide +kernel⟩
theorem bl0 (u : Str) : bl 0 ++ u = u := by rw [bl_zero, nil_app]
theorem map_bl0 (ls : List Str) : ls.map (bl 0 ++ ·) = ls := by simp only [bl0, List.map_id']
theorem doCall {ls : List Str} (h : CallH w I nv ls) : VC w O I sv dv wd tw (n + 12) 376 nv lv (Str.join ("\n" : Str) ls) := by
  obtain ⟨x, mm, nx, nm, ncl, al, as, c1, c2, t, rfl, hP, h1, h2, h3, h4, h5, h6, h7, h8, rfl⟩ := h
  have hf := doName (w := w) (sv := sv) (dv := dv) (wd := wd) (tw := tw) (O := O) (lv := lv) (n := n) h4 h5 h6 h7 h8
  have ha := (doList (sv := sv) (dv := dv) (wd := wd) (tw := tw) (O := O) (w := w) (lv := lv) (n := n) h3).le (n' := n + 8) (by (first | lia | omega))
  have hc := vCall hf ha hP.h h1 h2 rfl rfl (by decide +kernel) (by decide +kernel)
  rw [show ((((("f" : Str) ++ ("(" : Str)) ++ ("" : Str)) ++ (")" : Str)) : Str) = Str.join ("\n" : Str) ([] ++ [bl 0 ++ ("f()" : Str)]) from by decide +kernel] at hc
  have := hP.do (visit_spec (nm := "visit_Call") hc (tnI hP.h (q := "Call") (by kernel_rfl)) (by decide +kernel) (by decide +kernel) (by decide +kernel) (by decide +kernel) (by kernel_rfl) (by kernel_rfl) (by decide +kernel) (by decide +kernel)) ln_f (by decide +kernel)
  rw [map_bl0, bl0] at this
  exact this
end

end
section
/-- a list of nodes and the lines of each -/
noncomputable def ListH (R : Value → List Str → Prop) (vs : List Value) (lss : List (List Str)) : Prop := vs.length = lss.length ∧ ∀ (j : Nat) v, vs[j]? = some v → ∃ ls, lss[j]? = some ls ∧ R v ls
theorem ListH.mono {R R' : Value → List Str → Prop} {vs : List Value} {lss : List (List Str)} (h : ListH R vs lss) (k : ∀ v ls, R v ls → R' v ls) : ListH R' vs lss :=
  ⟨h.1, fun j v e => let ⟨ls, a, b⟩ := h.2 j v e; ⟨ls, a, k _ _ b⟩⟩
theorem ListH.nil {R : Value → List Str → Prop} : ListH R [] [] := ⟨rfl, fun j v e => by simp at e⟩
theorem ListH.push {R : Value → List Str → Prop} {vs : List Value} {lss : List (List Str)} {v : Value} {ls : List Str} (h : ListH R vs lss) (k : R v ls) : ListH R (vs ++ [v]) (lss ++ [ls]) := by
  obtain ⟨h1, h2⟩ := h
  refine ⟨by simp [h1], fun j u e => ?_⟩
  rcases Nat.lt_or_ge j vs.length with q | q
  · rw [List.getElem?_append_left q] at e
    obtain ⟨l, a, b⟩ := h2 j u e
    exact ⟨l, by rw [List.getElem?_append_left (by (first | lia | omega))]; exact a, b⟩
  · rw [List.getElem?_append_right q] at e
    have z : j - vs.length = 0 := by
      rcases Nat.eq_zero_or_pos (j - vs.length) with z | z
      · exact z
      · rw [List.getElem?_eq_none (by simp; (clear h1 q; (first | lia | omega)))] at e; cases e
    rw [z] at e
    cases e
    exact ⟨ls, by rw [List.getElem?_append_right (by (clear z; (first | lia | omega))), show j - lss.length = 0 by (first | lia | omega)]; rfl, k⟩
theorem ListH.all {R : Value → List Str → Prop} {vs : List Value} {lss : List (List Str)} (h : ListH R vs lss) : ∀ ls ∈ lss, ∃ v, R v ls := by
  intro ls hm
  obtain ⟨j, hj, rfl⟩ := List.getElem_of_mem hm
  have hj' : j < vs.length := by rw [h.1]; exact hj
  obtain ⟨l, a, b⟩ := h.2 j vs[j] (List.getElem?_eq_getElem hj')
  rw [List.getElem?_eq_getElem hj] at a
  exact ⟨_, Option.some.inj a ▸ b⟩
noncomputable def NodeH (w : World) (I : Im) (wd : Nat) : Nat → Value → List Str → Prop
  | 0, v, ls => CallH w I v ls
  | d + 1, v, ls => CallH w I v ls ∨ ∃ x mm bx bm bl' items lss as c1 c2 bs, v = .ref x ∧ NodeP w I 293 x mm as c1 c2 ∧ mm "body" = some (.ref bx) ∧ NodeP w I 203 bx bm [] [] bs ∧ bm "body" = some (.ref bl') ∧ ILst I bl' items ∧
      ListH (NodeH w I wd d) items.toList lss ∧ lss ≠ [] ∧ ls = as ++ (((("do" : Str) :: (lss.flatten ++ bs).map (bl wd ++ ·)) ++ [lastB "end" c1]) ++ c2)
theorem NodeH.call {w : World} {I : Im} {wd : Nat} {v : Value} {ls : List Str} (h : CallH w I v ls) : ∀ d, NodeH w I wd d v ls
  | 0 => h
  | _ + 1 => .inl h
theorem CallH.le {w : World} {I J : Im} {v : Value} {ls : List Str} (h : CallH w I v ls) (l : Le I J) : CallH w J v ls := by
  obtain ⟨x, mm, nx, nm, ncl, al, as, c1, c2, t, a, b, c, d, e, f, g, h', i, j, k⟩ := h
  exact ⟨x, mm, nx, nm, ncl, al, as, c1, c2, t, a, b.le l, c, d, e.le l, f.le l, g, h', i, j.le l, k⟩
theorem NodeH.le {w : World} {I J : Im} {wd : Nat} (l : Le I J) {d : Nat} : ∀ {v : Value} {ls : List Str}, NodeH w I wd d v ls → NodeH w J wd d v ls := by
  induction d with
  | zero => intro v ls h; exact CallH.le h l
  | succ d ih =>
    intro v ls h
    rcases h with h | ⟨x, mm, bx, bm, bl', items, lss, as, c1, c2, bs, a, b, c, e, f, g, h, i, j⟩
    · exact .inl (CallH.le h l)
    · exact .inr ⟨x, mm, bx, bm, bl', items, lss, as, c1, c2, bs, a, b.le l, c, e.le l, f, g.le l, h.mono fun _ _ z => ih z, i, j⟩
/-- good lines: each begins at some blanks, the last node line at none -/
noncomputable def GL (ls : List Str) : Prop := (∀ l ∈ ls, Li l) ∧ ∃ init u, ls = init ++ [u] ∧ Ln u
theorem GL.ne {ls : List Str} (h : GL ls) : ls ≠ [] := by obtain ⟨_, init, u, rfl, _⟩ := h; simp
theorem GL.mk {as mid c2 : List Str} {u : Str} (h1 : ∀ t ∈ as, Ln t) (h2 : ∀ l ∈ mid, Li l) (hu : Ln u) (h3 : ∀ t ∈ c2, Ln t) : GL (as ++ ((mid ++ [u]) ++ c2)) := by
  refine ⟨fun l hl => ?_, ?_⟩
  · simp only [List.mem_append, List.mem_singleton] at hl
    rcases hl with hl | (hl | rfl) | hl
    · exact (h1 l hl).li
    · exact h2 l hl
    · exact hu.li
    · exact (h3 l hl).li
  · rcases List.eq_nil_or_concat c2 with rfl | ⟨r, b, rfl⟩
    · exact ⟨as ++ mid, u, by simp, hu⟩
    · exact ⟨as ++ ((mid ++ [u]) ++ r), b, by simp [List.append_assoc], h3 b (by simp)⟩
theorem flat_gl {lss : List (List Str)} (h : ∀ ls ∈ lss, GL ls) : ∀ l ∈ lss.flatten, Li l := by
  intro l hl
  obtain ⟨ls, h1, h2⟩ := List.mem_flatten.mp hl
  exact (h ls h1).1 l h2
theorem NodeH.gl {w : World} {I : Im} {wd : Nat} : ∀ {d : Nat} {v : Value} {ls : List Str}, NodeH w I wd d v ls → GL ls := by
  have call : ∀ {v : Value} {ls : List Str}, CallH w I v ls → GL ls := by
    rintro v ls ⟨x, mm, nx, nm, ncl, al, as, c1, c2, t, rfl, hP, _, _, _, _, _, _, _, _, rfl⟩
    have hl := hP.ln
    exact GL.mk hl.1 (by simp) (ln_f.lastB fun t ht => (hl.2.1 t ht).1) hl.2.2
  intro d
  induction d with
  | zero => intro v ls h; exact call h
  | succ d ih =>
    rintro v ls (h | ⟨x, mm, bx, bm, bl', items, lss, as, c1, c2, bs, rfl, hP, _, hB, _, _, hL, _, rfl⟩)
    · exact call h
    · have hl := hP.ln
      refine GL.mk hl.1 (fun l hl' => ?_) (ln_end.lastB fun t ht => (hl.2.1 t ht).1) hl.2.2
      rcases List.mem_cons.mp hl' with rfl | hl'
      · exact ln_do.li
      · obtain ⟨y, hy, rfl⟩ := List.mem_map.mp hl'
        refine Li.ind wd ?_
        rcases List.mem_append.mp hy with hy | hy
        · exact flat_gl (fun ls hls => let ⟨v, z⟩ := hL.all ls hls; ih z) y hy
        · exact (hB.ln.2.2 y hy).li
theorem join_flat (sep : Str) : ∀ (lss : List (List Str)), (∀ ls ∈ lss, ls ≠ []) → Str.join sep (lss.map (Str.join sep)) = Str.join sep lss.flatten
  | [], _ => rfl
  | [l], _ => by simp [Str.join]
  | l :: m :: r, h => by
    have ih := join_flat sep (m :: r) fun y hy => h y (.tail _ hy)
    have h1 : (m :: r).flatten ≠ [] := by
      have := h m (by simp)
      cases m with
      | nil => exact absurd rfl this
      | cons => simp
    show Str.join sep l ++ sep ++ Str.join sep ((m :: r).map (Str.join sep)) = Str.join sep (l ++ (m :: r).flatten)
    rw [ih, join_app sep l _ (h l (.head _)) h1]
/-- the weight of some lines -/
noncomputable def wt (ls : List Str) : Nat := tl ls + ls.length
theorem wt_app (a b : List Str) : wt (a ++ b) = wt a + wt b := by unfold wt; rw [tl_app, List.length_append]; (first | lia | omega)
theorem wt_cons (a : Str) (b : List Str) : wt (a :: b) = a.length + 1 + wt b := by unfold wt tl; simp; (first | lia | omega)
theorem wt_join : ∀ ls : List Str, (Str.join ("\n" : Str) ls).length ≤ wt ls
  | [] => by decide +kernel
  | [l] => by rw [wt_cons]; show l.length ≤ _; (first | lia | omega)
  | l :: m :: r => by
    have ih := wt_join (m :: r)
    have e1 : ("\n" : Str).length = 1 := by decide +kernel
    rw [wt_cons]
    show (l ++ ("\n" : Str) ++ Str.join ("\n" : Str) (m :: r)).length ≤ _
    rw [Str.length_append', Str.length_append']; (first | lia | omega)
theorem wt_map {p : Str} : ∀ ls : List Str, wt ls ≤ wt (ls.map (p ++ ·)) ∧ wt (ls.map (p ++ ·)) = wt ls + ls.length * p.length
  | [] => ⟨Nat.le_refl _, by simp⟩
  | l :: r => by
    obtain ⟨h1, h2⟩ := wt_map (p := p) r
    rw [List.map_cons, wt_cons, wt_cons, Str.length_append', List.length_cons, Nat.add_mul]; (first | lia | omega)
theorem wt_mem : ∀ {lss : List (List Str)} {ls : List Str}, ls ∈ lss → wt ls ≤ wt lss.flatten
  | _ :: r, _, .head _ => by rw [List.flatten_cons, wt_app]; (first | lia | omega)
  | _ :: r, _, .tail _ h => by have := wt_mem h; rw [List.flatten_cons, wt_app]; (first | lia | omega)
theorem wt_flat : ∀ lss : List (List Str), (∀ ls ∈ lss, ls ≠ []) → lss.length ≤ wt lss.flatten ∧ ((lss.map (Str.join ("\n" : Str))).map (·.length)).sum ≤ wt lss.flatten
  | [], _ => by simp
  | l :: r, h => by
    obtain ⟨h1, h2⟩ := wt_flat r fun y hy => h y (.tail _ hy)
    have h3 := wt_join l
    have h4 : 1 ≤ wt l := by
      have := h l (.head _)
      cases l with
      | nil => exact absurd rfl this
      | cons => rw [wt_cons]; (clear h1 h2 h3 this; (first | lia | omega))
    rw [List.flatten_cons, wt_app]
    simp only [List.map_cons, List.sum_cons, List.length_cons]
    (first | lia | omega)
theorem keep_len {p : Str} : ∀ ls : List Str, (∀ l ∈ ls, Li l) → (((keepL ls).map (inL p)).map (·.length)).sum ≤ wt ls + ls.length * p.length
  | [], _ => by simp [keepL]
  | [l], h => by
    have := inL_li (p := p) (h l (.head _)) ⟨#[]⟩
    have z : l ++ (⟨#[]⟩ : Str) = l := Str.ext' (by simp [Str.cps_append])
    rw [z] at this
    rw [wt_cons]
    simp only [keepL, List.map_cons, List.map_nil, List.sum_cons, List.sum_nil, this, Str.length_append', List.length_cons, List.length_nil]
    (first | lia | omega)
  | l :: m :: r, h => by
    have ih := keep_len (p := p) (m :: r) fun y hy => h y (.tail _ hy)
    have e1 : ("\n" : Str).length = 1 := by decide +kernel
    have := inL_li (p := p) (h l (.head _)) "\n"
    show (((((l ++ ("\n" : Str)) :: keepL (m :: r)).map (inL p)).map (·.length)).sum) ≤ _
    rw [List.map_cons, List.map_cons, List.sum_cons, this, wt_cons, Str.length_append', Str.length_append', List.length_cons (a := l), Nat.add_mul]
    (first | lia | omega)

end
section
section
variable {w : World} {O : OsState} {I : Im} {sv dv : Addr} {wd : Nat} {tw : Tok} {n d : Nat} {v : Value} {ls : List Str} {lv : Int} {x bl' : Addr} {mm : Str → Option Value} {items : Array Value} {lss : List (List Str)}
/-- visit_Block over good children -/
theorem blockL (h : ∀ (j : Nat) v, items[j]? = some v → ∃ ls, lss[j]? = some ls ∧ VC w O I sv dv wd tw (n + 1) 376 v (lv + 1) (Str.join ("\n" : Str) ls)) (hg : ∀ ls ∈ lss, GL ls) (hz : items.size = lss.length) (H : IHI I x 203 mm) (hb : mm "body" = some (.ref bl')) (hl : ILst I bl' items)
    (hw : wd ≤ 100) (hs : wt lss.flatten ≤ 40000) (hlv : 0 ≤ lv) (hlv2 : lv ≤ 1000) :
    VC w O I sv dv wd tw (n + 5) 383 (.ref x) lv (Str.join ("\n" : Str) (lss.flatten.map (bl (ind0 wd lv).toNat ++ ·))) := by
  have hne : ∀ ls ∈ lss, ls ≠ [] := fun ls h => (hg ls h).ne
  obtain ⟨w1, w2⟩ := wt_flat lss hne
  have w3 := wt_join lss.flatten
  have hi0 : 0 ≤ ind0 wd lv ∧ ind0 wd lv ≤ 100 := by unfold ind0; split <;> (clear hz hs hlv hlv2 w1 w2 w3; (first | lia | omega))
  have hfl := flat_gl hg
  have ej := join_flat "\n" lss hne
  have hlen : lss.flatten.length ≤ 40000 := by unfold wt at hs; (clear hz hw hlv hlv2 w1 w2 w3 hi0; (first | lia | omega))
  have hk := keep_len (p := bl (ind0 wd lv).toNat) lss.flatten hfl
  have hkz : lss.flatten.length * (bl (ind0 wd lv).toNat).length ≤ 40000 * 100 := Nat.mul_le_mul hlen (by rw [bl_len]; (clear hz hw hs hlv hlv2 w1 w2 w3 hlen hk; (first | lia | omega)))
  have e1 : ("\n" : Str).length = 1 := by decide +kernel
  have e0 : ("" : Str).length = 0 := by decide +kernel
  have hB := vBlock (w := w) (O := O) (sv := sv) (dv := dv) (tw := tw) (n := n) (lv := lv) (wd := wd) (outs := lss.map (Str.join ("\n" : Str))) (items := items) (fun j v e => by
      obtain ⟨ls, a, b⟩ := h j v e
      exact ⟨_, by rw [List.getElem?_map, a]; rfl, b⟩) (by rw [List.length_map]; exact hz) (by (clear hw hlv hlv2 w2 w3 hi0 hlen hk hkz e1 e0; (first | lia | omega))) H hb hl (by (clear hz hs hlv hlv2 w1 w2 w3 hi0 hlen hk hkz e1 e0; (first | lia | omega))) (by (clear hz hs hlv hlv2 w1 w2 w3 hi0 hlen hk hkz e1 e0; (first | lia | omega)))
      (PyProof.Rows.joinOk_of (by rw [List.length_map, e1]; (clear hz hw hlv hlv2 w3 hi0 hlen hk hkz e1 e0; (first | lia | omega)))) (by rw [tj, ej]; (clear hz hw hlv hlv2 w1 w2 hi0 hlen hk hkz e1 e0; (first | lia | omega)))
      (by
        rw [tj, ej, kLines_join fun y hy => (hfl y hy).good, bl_mul]
        exact PyProof.Rows.joinOk_of (by rw [e0, Nat.mul_zero]; (clear hz hw hlv hlv2 w1 w2 w3 hi0 hlen e1 e0; (first | lia | omega)))) hlv hlv2
  rw [tj, ej, indS_join hfl, bl_mul] at hB
  exact visit_spec (nm := "visit_Block") hB (tnI H (q := "Block") (by kernel_rfl)) (by decide +kernel) (by decide +kernel) (by decide +kernel) (by decide +kernel) (by kernel_rfl) (by kernel_rfl) (by decide +kernel) (by decide +kernel)
theorem flat_last {lss : List (List Str)} (h : ∀ ls ∈ lss, GL ls) (hn : lss ≠ []) : ∃ init u, lss.flatten = init ++ [u] ∧ Ln u := by
  rcases List.eq_nil_or_concat lss with rfl | ⟨r, a, rfl⟩
  · exact absurd rfl hn
  · obtain ⟨_, i, u, e, hu⟩ := h a (by simp)
    refine ⟨r.flatten ++ i, u, ?_, hu⟩
    rw [List.concat_eq_append, List.flatten_append, List.flatten_singleton, e, List.append_assoc]
/-- do_visit of a node prints its lines -/
theorem doTree (hw : wd ≤ 100) : ∀ {d : Nat} {v : Value} {ls : List Str} {lv : Int}, NodeH w I wd d v ls → wt ls ≤ 40000 → 1 ≤ lv → lv + d ≤ 100 → VC w O I sv dv wd tw (12 + 9 * d) 376 v lv (Str.join ("\n" : Str) ls) := by
  intro d
  induction d with
  | zero => intro v ls lv h _ _ _; exact doCall h
  | succ d ih =>
    rintro v ls lv (h | ⟨x, mm, bx, bm, bl', items, lss, as, c1, c2, bs, rfl, hP, hb1, hB, hb2, hl, hL, hn, rfl⟩) hs h1 h2
    · exact (doCall (n := 0) h).le (by (clear hw hs h1 h2; (first | lia | omega)))
    · have hg : ∀ ls ∈ lss, GL ls := fun ls h => let ⟨v, z⟩ := hL.all ls h; z.gl
      obtain ⟨init, u, e, hu⟩ := flat_last hg hn
      have hz0 := (wt_map (p := bl wd) (lss.flatten ++ bs))
      have hzs : wt ((lss.flatten ++ bs).map (bl wd ++ ·)) + 3 ≤ 40000 := by
        rw [wt_app, wt_app, wt_app, wt_cons, wt_cons, show ("do" : Str).length = 2 from by decide +kernel] at hs
        (clear hw hn h1 h2; (first | lia | omega))
      have hz1 : wt lss.flatten ≤ 40000 := by have := wt_app lss.flatten bs; (clear hw hn hs h1 h2; (first | lia | omega))
      have hblk := blockL (w := w) (O := O) (sv := sv) (dv := dv) (tw := tw) (n := 11 + 9 * d) (lv := lv) (wd := wd) (items := items) (lss := lss) (fun j v e => by
        obtain ⟨l, a, b⟩ := hL.2 j v (by rw [Array.getElem?_toList]; exact e)
        have hm := wt_mem (List.mem_of_getElem? a)
        exact ⟨l, a, (ih b (by (clear hw hn hs h1 h2 hz0 hzs; (first | lia | omega))) (by (clear hw hn hs h2 hz0 hzs hz1 hm; (first | lia | omega))) (by (clear hw hn hs h1 hz0 hzs hz1 hm; (first | lia | omega)))).le (by (clear hw hn hs h1 h2 hz0 hzs hz1 hm; (first | lia | omega)))⟩) hg (by have := hL.1; rwa [Array.length_toList] at this) hB.h hb2 hl hw hz1 (by (clear hw hn hs h2 hz0 hzs hz1; (first | lia | omega))) (by (clear hw hn hs h1 hz0 hzs hz1; (first | lia | omega)))
      have e9 : (ind0 (wd : Int) lv).toNat = wd := by unfold ind0; rw [if_pos (by (clear hw hn hs h2 hz0 hzs hz1; (first | lia | omega)))]; (clear hn hs h1 h2 hz0 hzs hz1; (first | lia | omega))
      rw [e9, e, List.map_append, List.map_singleton] at hblk
      have hin : wt (init.map (bl wd ++ ·) ++ [bl wd ++ u]) ≤ 40000 := by
        have : init.map (bl wd ++ ·) ++ [bl wd ++ u] = lss.flatten.map (bl wd ++ ·) := by rw [e, List.map_append, List.map_singleton]
        rw [this]
        rw [List.map_append, wt_app] at hzs
        (clear hw hn hs h1 h2 hz0 hz1 e9; (first | lia | omega))
      have hblk2 := hB.do (n := 11 + 9 * d + 3) (init := init.map (bl wd ++ ·)) (k := wd) (u := u) hblk hu (by have := wt_join (init.map (bl wd ++ ·) ++ [bl wd ++ u]); (clear hw hn hs h1 h2 hz0 hzs hz1 e9; (first | lia | omega)))
      have e5 : ([] : List Str) ++ ((init.map (bl wd ++ ·) ++ [bl wd ++ lastB u []]) ++ bs.map (bl wd ++ ·)) = (lss.flatten ++ bs).map (bl wd ++ ·) := by
        rw [e]; simp [lastB]
      rw [e5] at hblk2
      have hne : (lss.flatten ++ bs).map (bl wd ++ ·) ≠ [] := by rw [e]; simp
      have hdo := vDo hblk2 hP.h hb1 rfl (by have := wt_join ((lss.flatten ++ bs).map (bl wd ++ ·)); (clear hw hn hs h1 h2 hz1 e9 hin hne; (first | lia | omega)))
      have e6 : (("do\n" : Str) ++ Str.join ("\n" : Str) ((lss.flatten ++ bs).map (bl wd ++ ·))) ++ ("\nend" : Str) = Str.join ("\n" : Str) ((("do" : Str) :: (lss.flatten ++ bs).map (bl wd ++ ·)) ++ [bl 0 ++ ("end" : Str)]) := by
        rw [join_snoc _ _ _ (by simp), sjoin_cons _ _ _ hne, bl0]
        rw [show ("do\n" : Str) = ("do" : Str) ++ ("\n" : Str) from by decide +kernel, show ("\nend" : Str) = ("\n" : Str) ++ ("end" : Str) from by decide +kernel]
        simp only [Str.append_assoc]
      rw [e6] at hdo
      have hfin := hP.do (n := 11 + 9 * d + 3 + 3 + 1) (k := 0) (u := "end") (init := ("do" : Str) :: (lss.flatten ++ bs).map (bl wd ++ ·)) (visit_spec (nm := "visit_Do") hdo (tnI hP.h (q := "Do") (by kernel_rfl)) (by decide +kernel) (by decide +kernel) (by decide +kernel) (by decide +kernel) (by kernel_rfl) (by kernel_rfl) (by decide +kernel) (by decide +kernel)) ln_end (by
        rw [bl0]
        have := wt_join ((("do" : Str) :: (lss.flatten ++ bs).map (bl wd ++ ·)) ++ [("end" : Str)])
        rw [wt_app, wt_cons, show wt [("end" : Str)] = 4 from by decide +kernel, show ("do" : Str).length = 2 from by decide +kernel] at this
        (clear hw hn hs h1 h2 hz1 e9 hin hne; (first | lia | omega)))
      rw [map_bl0, bl0] at hfin
      exact hfin.le (by (clear hw hn hs h1 h2 hz0 hzs hz1 e9 hin hne; (first | lia | omega)))
/-- do_visit of the whole -/
theorem doRoot {cx bx ccl bcl : Addr} {cm bm : Str → Option Value} (hw : wd ≤ 100) (HC : IHI I cx 224 cm) (hc1 : cm "body" = some (.ref bx)) (hc2 : cm "comments" = some (.ref ccl)) (hc3 : ILst I ccl #[]) (HB : IHI I bx 203 bm) (hb1 : bm "body" = some (.ref bl')) (hb2 : bm "comments" = some (.ref bcl)) (hb3 : ILst I bcl #[])
    (hl : ILst I bl' items) (hL : ListH (NodeH w I wd d) items.toList lss) (hd : d ≤ 50) (hs : wt lss.flatten ≤ 40000) : VC w O I sv dv wd tw (22 + 9 * d) 376 (.ref cx) 0 (Str.join ("\n" : Str) lss.flatten) := by
  have hg : ∀ ls ∈ lss, GL ls := fun ls h => let ⟨v, z⟩ := hL.all ls h; z.gl
  have hblk := blockL (w := w) (O := O) (sv := sv) (dv := dv) (tw := tw) (n := 11 + 9 * d) (lv := 0) (wd := wd) (items := items) (lss := lss) (fun j v e => by
        obtain ⟨l, a, b⟩ := hL.2 j v (by rw [Array.getElem?_toList]; exact e)
        have hm := wt_mem (List.mem_of_getElem? a)
        exact ⟨l, a, (doTree hw b (by (clear hw hd; (first | lia | omega))) (by (clear hw hd hs hm; (first | lia | omega))) (by (clear hw hs hm; (first | lia | omega)))).le (by (clear hw hd hs hm; (first | lia | omega)))⟩) hg (by have := hL.1; rwa [Array.length_toList] at this) HB hb1 hl hw hs (by (clear hw hd hs; (first | lia | omega))) (by (clear hw hd hs; (first | lia | omega)))
  rw [show (ind0 (wd : Int) 0).toNat = 0 from rfl, map_bl0] at hblk
  have h2 := doBare hblk HB (kindN (by kernel_rfl) (by kernel_rfl) (by kernel_rfl)) hb2 hb3
  have h3 := visit_spec (nm := "visit_Chunk") (vChunk h2 HC hc1 rfl) (tnI HC (q := "Chunk") (by kernel_rfl)) (by decide +kernel) (by decide +kernel) (by decide +kernel) (by decide +kernel) (by kernel_rfl) (by kernel_rfl) (by decide +kernel) (by decide +kernel)
  exact (doBare h3 HC (kindN (by kernel_rfl) (by kernel_rfl) (by kernel_rfl)) hc2 hc3).le (by (clear hw hd hs; (first | lia | omega)))
end

end
section
open PySem.Builtin PySem.Builtin.Str
theorem nb_digits {k : Int} (h : 0 ≤ k) : NB (Str.ofString (toString k)) := by
  obtain ⟨n, rfl⟩ := Int.eq_ofNat_of_zero_le h
  intro c hc
  rw [PyProof.Rows.signs_ofString] at hc
  obtain ⟨d, hd, rfl⟩ := List.mem_map.mp hc
  have hd : d ∈ (Nat.repr n).toList := hd
  have e : (Nat.repr n).toList = Nat.toDigits 10 n := by simp [Nat.repr]
  rw [e] at hd
  have hx := Nat.isDigit_of_mem_toDigits (by decide) (by decide) hd
  have h1 : 48 ≤ d.toNat ∧ d.toNat ≤ 57 := by
    unfold Char.isDigit at hx
    rw [Bool.and_eq_true, decide_eq_true_eq, decide_eq_true_eq] at hx
    exact ⟨hx.1, hx.2⟩
  have all : ∀ m : Fin 58, Unicode.isLineBreak m.val = true → m.val < 48 := by decide +kernel
  cases q : Unicode.isLineBreak d.toNat with
  | false => rfl
  | true => have := all ⟨d.toNat, by (clear h; (first | lia | omega))⟩ q; dsimp only at this; (clear h; (first | lia | omega))
theorem ln_tx {k : Int} (h : 0 ≤ k) : Ln (tx k) := by
  have h1 : Ln ("--[[" : Str) := ⟨by unfold NB; decide +kernel, 45, [45, 91, 91], by decide +kernel, by decide +kernel⟩
  exact (h1.app (nb_digits h)).app (by unfold NB; decide +kernel)
noncomputable def txs : Int → Nat → List Str
  | _, 0 => []
  | k, m + 1 => tx k :: txs (k + 1) m
theorem txs_len : ∀ {m : Nat} {k : Int}, (txs k m).length = m
  | 0, _ => rfl
  | m + 1, k => by show (txs (k + 1) m).length + 1 = _; rw [txs_len]
theorem remC_txt {b : Str} {beside : Bool} : ∀ {m : Nat} {rs : List Str} {k : Int}, (remC b beside m rs k).map (·.1) = txs k m
  | 0, _, _ => rfl
  | m + 1, rs, k => by
    show tx k :: (remC b beside m _ _).map (·.1) = tx k :: txs (k + 1) m
    rw [remC_txt]
theorem remC_idx {b : Str} {beside : Bool} : ∀ {m : Nat} {rs : List Str} {k : Int}, 0 ≤ k → k + m < 100000 → ∀ c ∈ remC b beside m rs k, k < c.2.1 ∧ c.2.1 ≤ k + m ∧ Ln c.1 ∧ c.1.length ≤ 12
  | 0, _, _, _, _, c, h => by cases h
  | m + 1, rs, k, h0, h1, c, h => by
    rcases List.mem_cons.mp h with rfl | h
    · exact ⟨by show k < k + 1; (clear h0 h1; (first | lia | omega)), by show k + 1 ≤ _; (clear h0 h1; (first | lia | omega)), ln_tx h0, tx_len h0 (by (clear h0; (first | lia | omega)))⟩
    · have := remC_idx (k := k + 1) (by (clear h1; (first | lia | omega))) (by (clear h0; (first | lia | omega))) c h
      exact ⟨by (clear h0 h1; (first | lia | omega)), by (clear h0 h1; (first | lia | omega)), this.2.2⟩
theorem remC_far {b : Str} : ∀ {m : Nat} {rs : List Str} {k : Int}, ∀ c ∈ remC b false m rs k, (rs.length : Int) < c.2.2
  | 0, _, _, c, h => by cases h
  | m + 1, rs, k, c, h => by
    have e : (rem1 b false rs k).length = rs.length + 1 := by simp [rem1]
    rcases List.mem_cons.mp h with rfl | h
    · show (rs.length : Int) < ((rem1 b false rs k).length : Int); (first | lia | omega)
    · have := remC_far c h; (first | lia | omega)
theorem rem1_last {b : Str} {rs : List Str} {k : Int} (h : rs ≠ []) : (rem1 b true rs k).length = rs.length := by
  have : 0 < rs.length := List.length_pos_iff.mpr h
  simp [rem1, lastPut]; (clear h; (first | lia | omega))
theorem remC_near {b : Str} : ∀ {m : Nat} {rs : List Str} {k : Int}, rs ≠ [] → ∀ c ∈ remC b true m rs k, c.2.2 = (rs.length : Int)
  | 0, _, _, _, c, h => by cases h
  | m + 1, rs, k, hn, c, h => by
    rcases List.mem_cons.mp h with rfl | h
    · show ((rem1 b true rs k).length : Int) = _; rw [rem1_last hn]
    · rw [remC_near rem1_ne c h, rem1_last hn]
theorem remR_far {b : Str} : ∀ {m : Nat} {rs : List Str} {k : Int}, remR b false m rs k = rs ++ (txs k m).map (b ++ ·)
  | 0, rs, _ => by simp [remR, txs]
  | m + 1, rs, k => by
    show remR b false m (rs ++ [b ++ tx k]) (k + 1) = _
    rw [remR_far]; simp [txs]
theorem remR_near {b : Str} : ∀ {m : Nat} {rs : List Str} {u : Str} {k : Int}, remR b true m (rs ++ [u]) k = rs ++ [lastB u (txs k m)]
  | 0, rs, u, _ => rfl
  | m + 1, rs, u, k => by
    show remR b true m (lastPut (rs ++ [u]) (tx k)) (k + 1) = _
    have e : lastPut (rs ++ [u]) (tx k) = rs ++ [(u ++ (" " : Str)) ++ tx k] := by simp [lastPut]
    rw [e, remR_near]; rfl
theorem fil_all {α : Type} {p : α → Bool} {l : List α} (h : ∀ c ∈ l, p c = true) : l.filter p = l := List.filter_eq_self.mpr h
theorem fil_none {α : Type} {p : α → Bool} {l : List α} (h : ∀ c ∈ l, p c = false) : l.filter p = [] := List.filter_eq_nil_iff.mpr fun c hc => by rw [h c hc]; decide
theorem deco_mix {A C1 C2 : List Com} {li ll : Int} (fl : Bool) (ha : ∀ c ∈ A, c.2.1 ≤ li) (h1 : ∀ c ∈ C1, li < c.2.1 ∧ c.2.2 = ll) (h2 : ∀ c ∈ C2, li < c.2.1 ∧ ll < c.2.2) :
    DecoOk (if fl = true then A ++ (C1 ++ C2) else (C1 ++ C2) ++ A) li ll (A.map (·.1)) (C1.map (·.1)) (C2.map (·.1)) := by
  have a1 : leadC li A = A := fil_all fun c hc => by rw [decide_eq_false (by have := ha c hc; (first | lia | omega))]; rfl
  have a2 : leadC li (C1 ++ C2) = [] := fil_none fun c hc => by
    rcases List.mem_append.mp hc with hc | hc
    · rw [decide_eq_true (h1 c hc).1]; rfl
    · rw [decide_eq_true (h2 c hc).1]; rfl
  have b1 : trailC li A = [] := fil_none fun c hc => decide_eq_false (by have := ha c hc; (first | lia | omega))
  have b2 : trailC li (C1 ++ C2) = C1 ++ C2 := fil_all fun c hc => by
    rcases List.mem_append.mp hc with hc | hc
    · exact decide_eq_true (h1 c hc).1
    · exact decide_eq_true (h2 c hc).1
  have c1 : leadC li (if fl = true then A ++ (C1 ++ C2) else (C1 ++ C2) ++ A) = A := by
    unfold leadC at a1 a2 ⊢
    split <;> rw [List.filter_append, a1, a2] <;> simp
  have c2 : trailC li (if fl = true then A ++ (C1 ++ C2) else (C1 ++ C2) ++ A) = C1 ++ C2 := by
    unfold trailC at b1 b2 ⊢
    split <;> rw [List.filter_append, b1, b2] <;> simp
  have d1 : inlC ll (C1 ++ C2) = C1 := by
    unfold inlC
    rw [List.filter_append, fil_all fun c hc => decide_eq_true (h1 c hc).2, fil_none (l := C2) fun c hc => decide_eq_false (by have := (h2 c hc).2; (first | lia | omega)), List.append_nil]
  have d2 : aftC ll (C1 ++ C2) = C2 := by
    unfold aftC
    rw [List.filter_append, fil_none (l := C1) fun c hc => by rw [decide_eq_true (h1 c hc).2]; rfl, fil_all (l := C2) fun c hc => by rw [decide_eq_false (by have := (h2 c hc).2; (first | lia | omega))]; rfl, List.nil_append]
  exact ⟨by rw [c1], by rw [c2, d1], by rw [c2, d2]⟩

end
section
/-- a frame of the law's stack -/
structure Fr where
  a : Addr
  s : Addr
  ah : Addr
  vals : Array Value
  first : Value
  last : Value
  lss : List (List Str)
  as : List Str
noncomputable def frC (f : Fr) : Ms := [(f.a, .ls #[.ref f.s, f.first, .ref f.ah, f.last]), (f.s, .ls f.vals)]
noncomputable def frs (fs : List Fr) : Ms := fs.flatMap frC
theorem frs_cons (f : Fr) (r : List Fr) : frs (f :: r) = (f.a, .ls #[.ref f.s, f.first, .ref f.ah, f.last]) :: (f.s, .ls f.vals) :: frs r := rfl
noncomputable def kArr (fs : List Fr) : Array Value := ((fs.map fun f => Value.ref f.a).reverse).toArray
theorem kArr_size (fs : List Fr) : (kArr fs).size = fs.length := by simp [kArr]
theorem kArr_cons (f : Fr) (r : List Fr) : kArr (f :: r) = (kArr r).push (.ref f.a) := by simp [kArr]
theorem kArr_last (f : Fr) (r : List Fr) : (kArr (f :: r))[(kArr (f :: r)).size - 1]? = some (.ref f.a) := by
  rw [kArr_cons, Array.size_push]; simp
theorem kArr_top (f : Fr) (r : List Fr) : (kArr (f :: r))[((-1 : Int) + ((kArr (f :: r)).size : Int)).toNat]? = some (.ref f.a) := by
  have := kArr_last f r
  rw [show ((-1 : Int) + ((kArr (f :: r)).size : Int)).toNat = (kArr (f :: r)).size - 1 by (first | lia | omega)]; exact this
noncomputable def opn (wd : Nat) (f : Fr) : List Fr → List Str
  | [] => []
  | _ :: r => (f.as ++ [("do" : Str)]).map (bl (wd * r.length) ++ ·)
noncomputable def rowsF (wd : Nat) : List Fr → List Str
  | [] => []
  | f :: r => rowsF wd r ++ (opn wd f r ++ f.lss.flatten.map (bl (wd * r.length) ++ ·))
structure FrOk (w : World) (I : Im) (wd i : Nat) (f : Fr) (k len : Int) (g : Nat) : Prop where
  nodes : ListH (NodeH w I wd (3 - i)) f.vals.toList f.lss
  ahead : ∃ av acs, ILst I f.ah av ∧ IComs I av.toList acs ∧ acs.map (·.1) = f.as ∧ (∀ c ∈ acs, c.2.1 ≤ k ∧ Ln c.1 ∧ c.1.length ≤ 12) ∧ acs.length ≤ 2
  first : 0 < i → ∃ fi fl, ITok I f.first fi fl
  last : f.vals.size ≠ 0 → ∃ li ll, ITok I f.last li ll ∧ li ≤ k ∧ ll ≤ len
  size : f.vals.size ≤ g
noncomputable def AllOk (w : World) (I : Im) (wd : Nat) (k len : Int) (g : Nat) : List Fr → Prop
  | [] => True
  | f :: r => FrOk w I wd r.length f k len g ∧ AllOk w I wd k len g r
theorem FrOk.up {w : World} {I J : Im} {wd i g g' : Nat} {f : Fr} {k k' len len' : Int} (h : FrOk w I wd i f k len g) (l : Le I J) (hk : k ≤ k') (hn : len ≤ len') (hg : g ≤ g') : FrOk w J wd i f k' len' g' := by
  obtain ⟨h1, ⟨av, acs, a1, a2, a3, a4, a5⟩, h3, h4, h5⟩ := h
  refine ⟨h1.mono fun _ _ z => NodeH.le l z, ⟨av, acs, a1.le l, a2.le l, a3, fun c hc => ?_, a5⟩, fun q => ?_, fun q => ?_, by (clear hk hn a5; (first | lia | omega))⟩
  · have := a4 c hc; exact ⟨by (clear hn hg h5 a5; (first | lia | omega)), this.2⟩
  · obtain ⟨fi, fl, z⟩ := h3 q; exact ⟨fi, fl, z.le l⟩
  · obtain ⟨li, ll, z, z1, z2⟩ := h4 q; exact ⟨li, ll, z.le l, by (clear hn hg h5 a5 q z2; (first | lia | omega)), by (clear hk hg h5 a5 q z1; (first | lia | omega))⟩
theorem AllOk.up {w : World} {I J : Im} {wd g g' : Nat} {k k' len len' : Int} (l : Le I J) (hk : k ≤ k') (hn : len ≤ len') (hg : g ≤ g') : ∀ {fs : List Fr}, AllOk w I wd k len g fs → AllOk w J wd k' len' g' fs
  | [], _ => trivial
  | _ :: _, ⟨a, b⟩ => ⟨a.up l hk hn hg, AllOk.up l hk hn hg b⟩
theorem map_bl_bl (a b : Nat) (ls : List Str) : (ls.map (bl b ++ ·)).map (bl a ++ ·) = ls.map (bl (a + b) ++ ·) := by
  rw [List.map_map]; apply List.map_congr_left; intro l _; show bl a ++ (bl b ++ l) = _; rw [bl_add, Str.append_assoc]
/-- one statement more -/
theorem rowsF_add {wd : Nat} {f : Fr} {r : List Fr} {ls : List Str} {v : Value} {la : Value} :
    rowsF wd ({ f with vals := f.vals.push v, lss := f.lss ++ [ls], last := la } :: r) = rowsF wd (f :: r) ++ ls.map (bl (wd * r.length) ++ ·) := by
  show rowsF wd r ++ (opn wd _ r ++ (f.lss ++ [ls]).flatten.map _) = rowsF wd r ++ (opn wd f r ++ f.lss.flatten.map _) ++ _
  have : opn wd { f with vals := f.vals.push v, lss := f.lss ++ [ls], last := la } r = opn wd f r := by cases r <;> rfl
  rw [this]; simp [List.append_assoc]
/-- the rows of a closed do block -/
theorem rowsF_pop {wd : Nat} {f g : Fr} {r : List Fr} {bs c1 c2 : List Str} :
    ((rowsF wd (f :: g :: r) ++ bs.map (bl (wd * (r.length + 1)) ++ ·)) ++ [bl (wd * r.length) ++ lastB "end" c1]) ++ c2.map (bl (wd * r.length) ++ ·)
      = rowsF wd (g :: r) ++ (f.as ++ (((("do" : Str) :: (f.lss.flatten ++ bs).map (bl wd ++ ·)) ++ [lastB "end" c1]) ++ c2)).map (bl (wd * r.length) ++ ·) := by
  show (((rowsF wd (g :: r) ++ ((f.as ++ [("do" : Str)]).map (bl (wd * r.length) ++ ·) ++ f.lss.flatten.map (bl (wd * (g :: r).length) ++ ·))) ++ _) ++ _) ++ _ = _
  have e : (g :: r).length = r.length + 1 := rfl
  rw [e]
  simp only [List.map_append, List.map_cons, List.map_nil, map_bl_bl, List.append_assoc, List.cons_append, List.nil_append, Nat.mul_add, Nat.mul_one]
structure LV (m : Str → Option Value) (H R T K : Addr) (wd : Nat) (tw : Tok) (mv : Int) (tm : Tok) : Prop where
  hand : m "hand" = some (.ref H)
  rows : m "rows" = some (.ref R)
  seat : m "seat" = some (.ref T)
  stack : m "stack" = some (.ref K)
  width : m "width" = some (.int wd tw)
  moves : m "moves" = some (.int mv tm)
theorem LV.upd {m : Str → Option Value} {H R T K : Addr} {wd : Nat} {tw tm : Tok} {mv : Int} {x : Str} {v : Value} (h : LV m H R T K wd tw mv tm) (hx : (["hand", "rows", "seat", "stack", "width", "moves"] : List Str).contains x = false) : LV (Mine.upd m x v) H R T K wd tw mv tm := by
  have ne : ∀ y ∈ (["hand", "rows", "seat", "stack", "width", "moves"] : List Str), y ≠ x := by
    rintro y hy rfl
    rw [List.contains_iff_mem.mpr hy] at hx; cases hx
  exact ⟨(upd_ne (ne _ (by simp))).trans h.hand, (upd_ne (ne _ (by simp))).trans h.rows, (upd_ne (ne _ (by simp))).trans h.seat, (upd_ne (ne _ (by simp))).trans h.stack, (upd_ne (ne _ (by simp))).trans h.width, (upd_ne (ne _ (by simp))).trans h.moves⟩
theorem LV.mv {m : Str → Option Value} {H R T K : Addr} {wd : Nat} {tw tm tm' : Tok} {mv mv' : Int} (h : LV m H R T K wd tw mv tm) : LV (Mine.upd m "moves" (.int mv' tm')) H R T K wd tw mv' tm' :=
  ⟨(upd_ne (by decide +kernel)).trans h.hand, (upd_ne (by decide +kernel)).trans h.rows, (upd_ne (by decide +kernel)).trans h.seat, (upd_ne (by decide +kernel)).trans h.stack, (upd_ne (by decide +kernel)).trans h.width, upd_eq⟩

end
section
noncomputable abbrev eL (L a : Addr) (cd : Value) : Env := PyProof.Rows.envOf "law" (fnS (stA 28)) L a cd
theorem eLok {L a : Addr} {cd : Value} : EnvOk (eL L a cd) L := ⟨rfl, rfl, rfl, by kernel_rfl⟩
noncomputable def whB : List Stmt := match (fnB (stA 28))[6]? with | some (Stmt.While _ b _ _) => b | _ => []
noncomputable def ifP : List Stmt := ifB (whB.getD 4 (.Pass ⟨0, 0, 0, 0⟩))
theorem bits5 (k : Nat) (h : k ≤ 4) : Builtin.Int.intBits (k : Int) ≤ 64 := (by decide : ∀ k : Fin 5, Builtin.Int.intBits (k.val : Int) ≤ 64) ⟨k, by (first | lia | omega)⟩
section
variable {w : World} {O : OsState} {I : Im} {A : Around} {E : Value → Shared → Prop} {s : Shared} {L a H R T K : Addr} {cd : Value} {m : Str → Option Value} {ms : Ms} {hc tc : Cel} {rv : Array Value} {fs : List Fr} {wd : Nat} {tw tm : Tok} {mv : Int} {n : Nat} {Q : Flow → Shared → Prop}
/-- the draw of a number -/
theorem drawL {p1 p2 p3 p4 : Pos} {k1 : Nat} {many : Int} {Q : Value → Shared → Prop} (hA : Ok A (n + 1)) (S : St w O I ((L, .ns m) :: (H, hc) :: ms) s) (hm : m "hand" = some (.ref H)) (hh : HandC I hc) (h0 : 0 < many) (h1 : many < 1000)
    (q : ∀ s' hc' r t, St w O I ((L, .ns m) :: (H, hc') :: ms) s' → HandC I hc' → 0 ≤ r → r < many → Q (.int r t) s') :
    wpAny (model PG w) A (eval (.Call (.Name "_law_draw" p1) [.Name "hand" p2, .Constant (.int many) k1 p3] [] p4) (eL L a cd)) Q E s := by
  refine callF (v := .ref 842) S eLok (by kernel_rfl) (gl14 _) (by kernel_rfl) (by decide +kernel) ?_
  refine wpAny_items_cons ?_
  refine nL S eLok (by kernel_rfl) hm ?_ (by decide +kernel)
  refine wpAny_items_cons (cI S fun s₂ t₂ S => ?_)
  refine wpAny_items_nil ?_
  exact ⟨S.kin, wpAny_call (draw_spec (i := 1) (n := n) hA S rfl hh h0 h1 fun s' c' r t S hh' a b => q s' c' r t S hh' a b)⟩
theorem headL (hA : Ok A (n + 1)) (S : St w O I ((L, .ns m) :: (H, hc) :: (R, .ls rv) :: (T, tc) :: (K, .ls (kArr fs)) :: ms) s) (hv : LV m H R T K wd tw mv tm) (hh : HandC I hc) (hw : wd ≤ 4) (hf : fs.length ≤ 4) (h0 : 1 ≤ fs.length)
    (h : ∀ s' m' hc' mvv tb td tv tm', St w O I ((L, .ns m') :: (H, hc') :: (R, .ls rv) :: (T, tc) :: (K, .ls (kArr fs)) :: ms) s' → LV m' H R T K wd tw (mv - 1) tm' → HandC I hc' → m' "depth" = some (.int ((fs.length : Int) - 1) td) →
      m' "blanks" = some (.str (bl (wd * (fs.length - 1))) tb) → m' "move" = some (.int mvv tv) → (0 < mv ∧ 0 ≤ mvv ∧ mvv < 4 ∨ mv ≤ 0 ∧ mvv = 3) → wpAny (model PG w) A (execs (whB.drop 4) (eL L a cd)) Q E s') :
    wpAny (model PG w) A (execs whB (eL L a cd)) Q E s := by
  change wpAny _ A (execs (_ :: _ :: _ :: _ :: _) (eL L a cd)) _ _ _
  refine wpAny_execs_cons (wpAny_Assign_Name (wpAny_BinOp ?_))
  refine callB (id := "len") S eLok (by kernel_rfl) (bl1 _) bv1 (by decide +kernel) (by decide +kernel) ?_
  refine wpAny_items_cons ?_
  refine nL S eLok (by kernel_rfl) hv.stack ?_ (by decide +kernel)
  refine wpAny_items_nil ?_
  refine lenL S (S.gl (i := 4) rfl) (by rw [kArr_size]; (clear hw; (first | lia | omega))) fun s₁ t₁ S => ?_
  refine cI S fun s₂ t₂ S => ?_
  refine oSub S fun s₃ t₃ S => ?_
  rw [kArr_size]
  refine sL S eLok (by kernel_rfl) fun s₄ S => ?_
  have hv₁ := hv.upd (x := "depth") (v := .int ((fs.length : Int) - 1) t₃) (by decide +kernel)
  have hd : upd m "depth" (.int ((fs.length : Int) - 1) t₃) "depth" = some (.int ((fs.length : Int) - 1) t₃) := upd_eq
  generalize upd m "depth" (.int ((fs.length : Int) - 1) t₃) = m₁ at *
  refine wpAny_execs_cons (wpAny_Assign_Name (wpAny_BinOp ?_))
  refine cS S fun s₅ t₅ S => ?_
  refine wpAny_BinOp ?_
  refine nL S eLok (by kernel_rfl) hv₁.width ?_ (by decide +kernel)
  refine nL S eLok (by kernel_rfl) hd ?_ (by decide +kernel)
  have e1 : ((fs.length : Int) - 1) = ((fs.length - 1 : Nat) : Int) := by (clear hw; (first | lia | omega))
  have e2 : (wd : Int) * ((fs.length : Int) - 1) = ((wd * (fs.length - 1) : Nat) : Int) := by rw [e1]; exact (Int.natCast_mul _ _).symm
  have e3 : wd * (fs.length - 1) ≤ 4 * 3 := Nat.mul_le_mul hw (by (clear hw e2; (first | lia | omega)))
  refine oMul S ?_ fun s₆ t₆ S => ?_
  · exact .of_left (bits5 _ hw)
  rw [e2]
  refine SB.mul (PyProof.Rows.mulOk_of 1 100 (by decide +kernel) (by (clear hw hf h0 e1 e2; (first | lia | omega))) (by (clear hw hf h0 e1 e2; (first | lia | omega))) (by decide) (by decide)) fun u k => ?_
  have S := S.toks (t := k)
  rw [bl_mul, Int.toNat_natCast]
  refine sL S eLok (by kernel_rfl) fun s₇ S => ?_
  have hv₂ := hv₁.upd (x := "blanks") (v := .str (bl (wd * (fs.length - 1))) u) (by decide +kernel)
  have hd₂ : upd m₁ "blanks" (.str (bl (wd * (fs.length - 1))) u) "depth" = some (.int ((fs.length : Int) - 1) t₃) := (upd_ne (by decide +kernel)).trans hd
  have hb₂ : upd m₁ "blanks" (.str (bl (wd * (fs.length - 1))) u) "blanks" = some (.str (bl (wd * (fs.length - 1))) u) := upd_eq
  generalize upd m₁ "blanks" (.str (bl (wd * (fs.length - 1))) u) = m₂ at *
  have rest : ∀ s' hc' mvv tv, St w O I ((L, .ns m₂) :: (H, hc') :: (R, .ls rv) :: (T, tc) :: (K, .ls (kArr fs)) :: ms) s' → HandC I hc' → (0 < mv ∧ 0 ≤ mvv ∧ mvv < 4 ∨ mv ≤ 0 ∧ mvv = 3) →
      wpAny (model PG w) A (storeName (eL L a cd) "move" (.int mvv tv)) (fun _ s => wpAny (model PG w) A (execs (whB.drop 3) (eL L a cd)) Q E s) E s' := by
    intro s' hc' mvv tv S hh' hmv
    refine sL S eLok (by kernel_rfl) fun s₈ S => ?_
    have hv₃ := hv₂.upd (x := "move") (v := .int mvv tv) (by decide +kernel)
    have hd₃ : upd m₂ "move" (.int mvv tv) "depth" = some (.int ((fs.length : Int) - 1) t₃) := (upd_ne (by decide +kernel)).trans hd₂
    have hb₃ : upd m₂ "move" (.int mvv tv) "blanks" = some (.str (bl (wd * (fs.length - 1))) u) := (upd_ne (by decide +kernel)).trans hb₂
    have hm₃ : upd m₂ "move" (.int mvv tv) "move" = some (.int mvv tv) := upd_eq
    generalize upd m₂ "move" (.int mvv tv) = m₃ at *
    change wpAny _ A (execs (_ :: _) (eL L a cd)) _ _ _
    refine wpAny_execs_cons (wpAny_Assign_Name (wpAny_BinOp ?_))
    refine nL S eLok (by kernel_rfl) hv₃.moves ?_ (by decide +kernel)
    refine cI S fun s₉ t₉ S => ?_
    refine oSub S fun s₁₀ t₁₀ S => ?_
    refine sL S eLok (by kernel_rfl) fun s₁₁ S => ?_
    exact h _ _ _ _ _ _ _ _ S hv₃.mv hh' ((upd_ne (by decide +kernel)).trans hd₃) ((upd_ne (by decide +kernel)).trans hb₃) ((upd_ne (by decide +kernel)).trans hm₃) hmv
  refine wpAny_execs_cons (wpAny_Assign_Name (wpAny_IfExp (wpAny_isTrue_Compare1 ?_)))
  refine nL S eLok (by kernel_rfl) hv₂.moves ?_ (by decide +kernel)
  refine cI S fun s₈ t₈ S => ?_
  refine gt_int (wpAny_truthy_bool ?_)
  by_cases z : 0 < mv
  · rw [decide_eq_true z, if_pos rfl]
    refine drawL (n := n) hA S hv₂.hand hh (by decide) (by decide) fun s' hc' r t S hh' h1 h2 => ?_
    exact rest _ _ _ _ S hh' (.inl ⟨z, h1, h2⟩)
  · rw [decide_eq_false z, if_neg Bool.false_ne_true]
    refine cI S fun s₉ t₉ S => ?_
    exact rest _ _ _ _ S hh (.inr ⟨by (clear hw hf h0 e1 e2 e3; (first | lia | omega)), rfl⟩)
end

end
section
section
variable {w : World} {O : OsState} {I : Im} {A : Around} {E : Value → Shared → Prop} {s : Shared} {L a H R T K : Addr} {cd : Value} {m : Str → Option Value} {ms : Ms} {hc tc : Cel} {rv : Array Value} {f : Fr} {r fs : List Fr} {wd : Nat} {tw tm t tb td tv : Tok} {mv mvv k : Int} {n : Nat} {b : Str} {rs : List Str}
theorem topE {p1 p2 p3 p4 : Pos} {k1 : Nat} {Q : Value → Shared → Prop} (S : St w O I ((L, .ns m) :: (H, hc) :: (R, .ls rv) :: (T, tc) :: (K, .ls (kArr (f :: r))) :: ms) s) (hm : m "stack" = some (.ref K)) (hf : r.length ≤ 4)
    (q : ∀ s', St w O I ((L, .ns m) :: (H, hc) :: (R, .ls rv) :: (T, tc) :: (K, .ls (kArr (f :: r))) :: ms) s' → Q (.ref f.a) s') :
    wpAny (model PG w) A (eval (.Subscript (.Name "stack" p1) (.UnaryOp .USub (.Constant (.int 1) k1 p2) p3) p4) (eL L a cd)) Q E s := by
  refine Subscript_ ?_
  refine nL S eLok (by kernel_rfl) hm ?_ (by decide +kernel)
  refine wpAny_UnaryOp ?_
  refine cI S fun s₁ t₁ S => ?_
  refine oNeg S fun s₂ t₂ S => ?_
  have z := kArr_size (f :: r)
  rw [List.length_cons] at z
  exact getB (S.gl (i := 4) rfl) (by decide) (by (first | lia | omega)) (by (first | lia | omega)) (kArr_top f r) (q _ S)
theorem topI {p1 p2 p3 p4 p5 p6 : Pos} {k1 k2 : Nat} {Q : Value → Shared → Prop} (S : St w O I ((L, .ns m) :: (H, hc) :: (R, .ls rv) :: (T, tc) :: (K, .ls (kArr (f :: r))) :: (frs (f :: r) ++ ms)) s) (hm : m "stack" = some (.ref K)) (hf : r.length ≤ 4)
    (q : ∀ s', St w O I ((L, .ns m) :: (H, hc) :: (R, .ls rv) :: (T, tc) :: (K, .ls (kArr (f :: r))) :: (frs (f :: r) ++ ms)) s' → Q (.ref f.s) s') :
    wpAny (model PG w) A (eval (.Subscript (.Subscript (.Name "stack" p1) (.UnaryOp .USub (.Constant (.int 1) k1 p2) p3) p4) (.Constant (.int 0) k2 p5) p6) (eL L a cd)) Q E s := by
  refine Subscript_ ?_
  refine topE S hm hf fun s₁ S => ?_
  refine cI S fun s₂ t₂ S => ?_
  exact getI (S.gl (i := 5) rfl) (by decide) (by show 4 < 1000000; decide) rfl (q _ S)
theorem popTest {Q : Bool → Shared → Prop} (S : St w O I ((L, .ns m) :: (H, hc) :: (R, .ls rv) :: (T, tc) :: (K, .ls (kArr (f :: r))) :: (frs (f :: r) ++ ms)) s) (hm : m "stack" = some (.ref K)) (hf : r.length ≤ 4) (hz : f.vals.size ≤ 1000)
    (hd : m "depth" = some (.int (((f :: r).length : Int) - 1) td)) (hmv : m "move" = some (.int mvv tv))
    (h1 : ∀ s', St w O I ((L, .ns m) :: (H, hc) :: (R, .ls rv) :: (T, tc) :: (K, .ls (kArr (f :: r))) :: (frs (f :: r) ++ ms)) s' → mvv = 3 → r ≠ [] → f.vals.size ≠ 0 → Q true s')
    (h2 : ∀ s', St w O I ((L, .ns m) :: (H, hc) :: (R, .ls rv) :: (T, tc) :: (K, .ls (kArr (f :: r))) :: (frs (f :: r) ++ ms)) s' → ¬ (mvv = 3 ∧ r ≠ [] ∧ f.vals.size ≠ 0) → Q false s') :
    wpAny (model PG w) A (isTrue (ifT (whB.getD 4 (.Pass ⟨0, 0, 0, 0⟩))) (eL L a cd) (eval (ifT (whB.getD 4 (.Pass ⟨0, 0, 0, 0⟩))) (eL L a cd))) Q E s := by
  change wpAny _ _ (isTrue (.BoolOp _ (_ :: _ :: _ :: []) _) _ _) _ _ _
  refine wpAny_isTrue_BoolOp (wpAny_allTrue_And_cons (wpAny_isTrue_Compare1 ?_))
  refine nL S eLok (by kernel_rfl) hmv ?_ (by decide +kernel)
  refine cI S fun s₁ t₁ S => ?_
  refine eq_int (wpAny_truthy_bool ?_)
  by_cases z : mvv = 3
  · rw [if_pos (beq_iff_eq.mpr z)]
    refine wpAny_allTrue_And_cons (wpAny_isTrue_Compare1 ?_)
    refine nL S eLok (by kernel_rfl) hd ?_ (by decide +kernel)
    refine cI S fun s₂ t₂ S => ?_
    refine gt_int (wpAny_truthy_bool ?_)
    by_cases z2 : r = []
    · rw [decide_eq_false (by rw [z2]; show ¬ (0 : Int) < 1 - 1; decide), if_neg Bool.false_ne_true]
      exact h2 _ S fun q => q.2.1 z2
    · have : 0 < r.length := List.length_pos_iff.mpr z2
      rw [decide_eq_true (by rw [List.length_cons]; (clear hz z z2; (first | lia | omega))), if_pos rfl]
      refine wpAny_allTrue_And_cons (wpAny_isTrue_Compare1 ?_)
      refine callB (id := "len") S eLok (by kernel_rfl) (bl1 _) bv1 (by decide +kernel) (by decide +kernel) ?_
      refine wpAny_items_cons ?_
      refine topI S hm hf fun s₃ S => ?_
      refine wpAny_items_nil ?_
      refine lenL S (S.gl (i := 6) rfl) (by (clear hf z z2 this; (first | lia | omega))) fun s₄ t₄ S => ?_
      refine cI S fun s₅ t₅ S => ?_
      refine gt_int (wpAny_truthy_bool ?_)
      by_cases z3 : f.vals.size = 0
      · rw [decide_eq_false (by (clear hf hz z z2 this; (first | lia | omega))), if_neg Bool.false_ne_true]
        exact h2 _ S fun q => q.2.2 z3
      · rw [decide_eq_true (by (clear hf z z2 this; (first | lia | omega))), if_pos rfl]
        refine wpAny_allTrue_And_nil ?_
        exact h1 _ S z z2 z3
  · rw [if_neg (fun q => z (beq_iff_eq.mp q))]
    exact h2 _ S fun q => z q.1
theorem remL {p1 p2 p3 p4 p5 p6 p7 p8 p9 p10 : Pos} {k1 k2 : Nat} {Q : Value → Shared → Prop} (hA : Ok A (n + 10)) (S : St w O I ((L, .ns m) :: (H, hc) :: (R, .ls rv) :: (T, .ls #[.int k t]) :: ms) s) (hv : LV m H R T K wd tw mv tm) (hb : m "blanks" = some (.str b tb)) (hh : HandC I hc) (hr : StrsAre rv.toList rs)
    (hk0 : 0 ≤ k) (hk : k ≤ 9000) (hz : tl rs + 10 * (b.length + 20) ≤ 10000000) (hz2 : rs.length ≤ 80000)
    (q : ∀ s' J l lv rv' t' hc' mm, Le I J → mm ≤ 2 → ILst J l lv → IComs J lv.toList (remC b false mm rs k) → StrsAre rv'.toList (remR b false mm rs k) → HandC J hc' → St w O J ((L, .ns m) :: (H, hc') :: (R, .ls rv') :: (T, .ls #[.int (k + (mm : Nat)) t']) :: ms) s' → Q (.ref l) s') :
    wpAny (model PG w) A (eval (.Call (.Name "_law_remarks" p1) [.Call (.Name "_law_draw" p2) [.Name "hand" p3, .Constant (.int 3) k1 p4] [] p5, .Name "rows" p6, .Name "seat" p7, .Name "blanks" p8, .Constant (.bool false) k2 p9] [] p10) (eL L a cd)) Q E s := by
  refine callF (v := .ref 856) S eLok (by kernel_rfl) (gl16 _) (by kernel_rfl) (by decide +kernel) ?_
  refine wpAny_items_cons ?_
  refine drawL (n := n + 9) hA S hv.hand hh (by decide) (by decide) fun s₁ c₁ r₁ t₁ S hh₁ h1 h2 => ?_
  obtain ⟨m1, rfl⟩ := Int.eq_ofNat_of_zero_le h1
  refine wpAny_items_cons ?_
  refine nL S eLok (by kernel_rfl) hv.rows ?_ (by decide +kernel)
  refine wpAny_items_cons ?_
  refine nL S eLok (by kernel_rfl) hv.seat ?_ (by decide +kernel)
  refine wpAny_items_cons ?_
  refine nL S eLok (by kernel_rfl) hb ?_ (by decide +kernel)
  refine wpAny_items_cons (cB (wpAny_items_nil ?_))
  have S := St.mid [_, _] [_, _] S
  refine ⟨S.kin, wpAny_call (remarks_spec (n := n) (mm := m1) (beside := false) (hA.le (by (clear hk0 hk hz hz2 h1 h2; (first | lia | omega)))) S hr (by (clear hk0 hk hz hz2; (first | lia | omega))) hk0 (by (clear hz hz2 h1 h2; (first | lia | omega))) (fun z => by cases z) (by (clear hk0 hk hz2 h1 h2; (first | lia | omega))) (by (clear hk0 hk hz h1 h2; (first | lia | omega))) fun s₂ J l lv rv' t' lJ hl hcs hr' S => ?_)⟩
  exact q _ J l lv rv' t' c₁ m1 lJ (by (clear hk0 hk hz hz2; (first | lia | omega))) hl hcs hr' (hh₁.le lJ) (St.mid [_, _] [_, _] S)
theorem signL {p1 p2 p3 p4 : Pos} {Q : Value → Shared → Prop} (hA : Ok A (n + 3)) (S : St w O I ((L, .ns m) :: (H, hc) :: (R, .ls rv) :: (T, .ls #[.int k t]) :: ms) s) (hv : LV m H R T K wd tw mv tm) (hz : rv.size < 100000)
    (q : ∀ s' J v t', Le I J → ITok J v (k + 1) rv.size → St w O J ((L, .ns m) :: (H, hc) :: (R, .ls rv) :: (T, .ls #[.int (k + 1) t']) :: ms) s' → Q v s') :
    wpAny (model PG w) A (eval (.Call (.Name "_law_sign" p1) [.Name "rows" p2, .Name "seat" p3] [] p4) (eL L a cd)) Q E s := by
  refine callF (v := .ref 849) S eLok (by kernel_rfl) (gl15 _) (by kernel_rfl) (by decide +kernel) ?_
  refine wpAny_items_cons ?_
  refine nL S eLok (by kernel_rfl) hv.rows ?_ (by decide +kernel)
  refine wpAny_items_cons ?_
  refine nL S eLok (by kernel_rfl) hv.seat ?_ (by decide +kernel)
  refine wpAny_items_nil ?_
  have S := St.mid [_, _] [_, _] S
  refine ⟨S.kin, wpAny_call (sign_spec (n := n) hA S hz fun s' J v t' lJ hv S => ?_)⟩
  exact q _ J v t' lJ hv (St.mid [_, _] [_, _] S)
theorem behL {al : Addr} {av : Array Value} {as : List Com} {p1 p2 p3 p4 p5 p6 p7 : Pos} {Q : Value → Shared → Prop} (hA : Ok A (n + 10)) (S : St w O I ((L, .ns m) :: (H, hc) :: (R, .ls rv) :: (T, .ls #[.int k t]) :: ms) s) (hv : LV m H R T K wd tw mv tm) (hb : m "blanks" = some (.str b tb)) (ham : m "ahead" = some (.ref al)) (hh : HandC I hc) (hr : StrsAre rv.toList rs)
    (ha : ILst I al av) (has : IComs I av.toList as) (hk0 : 0 ≤ k) (hk : k ≤ 9000) (hrs : rs ≠ []) (hz : tl rs + 20 * (b.length + 20) ≤ 10000000) (hz2 : rs.length ≤ 80000) (hz3 : as.length ≤ 1000)
    (q : ∀ s' J l lv rv' t' hc' (m1 m2 : Nat) (fl : Bool), Le I J → HandC J hc' → m1 ≤ 2 → m2 ≤ 2 → ILst J l lv →
      IComs J lv.toList (if fl then as ++ (remC b true m1 rs k ++ remC b false m2 (remR b true m1 rs k) (k + m1)) else (remC b true m1 rs k ++ remC b false m2 (remR b true m1 rs k) (k + m1)) ++ as) →
      StrsAre rv'.toList (remR b false m2 (remR b true m1 rs k) (k + m1)) → St w O J ((L, .ns m) :: (H, hc') :: (R, .ls rv') :: (T, .ls #[.int (k + m1 + m2) t']) :: ms) s' → Q (.ref l) s') :
    wpAny (model PG w) A (eval (.Call (.Name "_law_behind" p1) [.Name "hand" p2, .Name "rows" p3, .Name "seat" p4, .Name "blanks" p5, .Name "ahead" p6] [] p7) (eL L a cd)) Q E s := by
  refine callF (v := .ref 863) S eLok (by kernel_rfl) (gl17 _) (by kernel_rfl) (by decide +kernel) ?_
  refine wpAny_items_cons ?_
  refine nL S eLok (by kernel_rfl) hv.hand ?_ (by decide +kernel)
  refine wpAny_items_cons ?_
  refine nL S eLok (by kernel_rfl) hv.rows ?_ (by decide +kernel)
  refine wpAny_items_cons ?_
  refine nL S eLok (by kernel_rfl) hv.seat ?_ (by decide +kernel)
  refine wpAny_items_cons ?_
  refine nL S eLok (by kernel_rfl) hb ?_ (by decide +kernel)
  refine wpAny_items_cons ?_
  refine nL S eLok (by kernel_rfl) ham ?_ (by decide +kernel)
  refine wpAny_items_nil ?_
  have S := St.mid [_] [_, _, _] S
  refine ⟨S.kin, wpAny_call (behind_spec (n := n) hA S hh hr ha has hk0 hk hrs hz hz2 hz3 fun s' J l lv rv' t' c' m1 m2 fl lJ h1 h2 h3 h4 h5 h6 S => ?_)⟩
  exact q _ J l lv rv' t' c' m1 m2 fl lJ h1 h2 h3 h4 h5 h6 (St.mid [_, _, _] [_] S)
/-- rows.append(blanks + text) -/
theorem rowA {x : Str} {p1 p2 p3 p4 p5 p6 p7 : Pos} {k1 : Nat} {Q : Flow → Shared → Prop} (S : St w O I ((L, .ns m) :: (H, hc) :: (R, .ls rv) :: ms) s) (hm : m "rows" = some (.ref R)) (hb : m "blanks" = some (.str b tb)) (hr : StrsAre rv.toList rs) (hz : rv.size < 1000000) (hl : b.length + x.length ≤ 16000000)
    (q : ∀ s' rv', StrsAre rv'.toList (rs ++ [b ++ x]) → St w O I ((L, .ns m) :: (H, hc) :: (R, .ls rv') :: ms) s' → Q .next s')
    (he : eval (.Call (.Attribute (.Name "rows" p1) "append" p2) [.BinOp (.Name "blanks" p3) .Add (.Constant (.str x) k1 p4) p5] [] p6) (eL L a cd) = (do
      let ov ← eval (.Name "rows" p1) (eL L a cd)
      standAt p2.atName
      let (f, first) ← holding [ov] (getMethod ov "append" (do return (← importBound (.Name "rows" p1) (eL L a cd)).getD true))
      callWith p6 f first (backTo p6 (starEach [.BinOp (.Name "blanks" p3) .Add (.Constant (.str x) k1 p4) p5] (eL L a cd))) (backToKw p6 (keywordEach [] (eL L a cd)))) := by rfl)
    (hs : swapsWith (.Call (.Attribute (.Name "rows" p1) "append" p2) [.BinOp (.Name "blanks" p3) .Add (.Constant (.str x) k1 p4) p5] [] p6) none p7.line (eL L a cd) = pure false := by rfl) :
    wpAny (model PG w) A (exec (.Expr (.Call (.Attribute (.Name "rows" p1) "append" p2) [.BinOp (.Name "blanks" p3) .Add (.Constant (.str x) k1 p4) p5] [] p6) p7) (eL L a cd)) Q E s := by
  refine appendO (O := O) (he := he) (hs := hs) ?_
  refine nL S eLok (by kernel_rfl) hm ?_ (by decide +kernel)
  obtain ⟨nl, hlo⟩ := S.lo (i := 2) rfl
  refine ⟨R, rv, nl, rfl, hlo, ?_⟩
  refine wpAny_BinOp ?_
  refine nL S eLok (by kernel_rfl) hb ?_ (by decide +kernel)
  refine cS S fun s₁ t₁ S => ?_
  refine addS S hl fun s₂ t₂ S => ?_
  exact ⟨I, _, 2, rv, S, rfl, hz, fun s₃ S => q _ (rv.push _) (by rw [Array.toList_push]; exact StrsAre.app hr (.cons _ _ .nil)) S⟩
end

end
section
section
variable {w : World} {O : OsState} {I : Im} {A : Around} {E : Value → Shared → Prop} {s : Shared} {L a H R T K : Addr} {cd : Value} {m : Str → Option Value} {ms : Ms} {hc tc : Cel} {rv : Array Value} {f g : Fr} {r fs : List Fr} {wd : Nat} {tw tm t tb td tv : Tok} {mv mvv k : Int} {n : Nat} {b : Str} {rs : List Str}
theorem popM {i : Nat} {pl : Sem Bool} {pos : Pos} {Q : Value → Shared → Prop} (S : St w O I ms s) (hi : ms[i]? = some (K, .ls (kArr (f :: r)))) (hf : r.length ≤ 4) (q : ∀ s', St w O I (ms.set i (K, .ls (kArr r))) s' → Q (.ref f.a) s') :
    wpAny (model PG w) A (getMethod (.ref K) "pop" pl) (fun fx s₂ => wpAny (model PG w) A (callWith pos fx.1 fx.2 [] []) Q E s₂) E s := by
  obtain ⟨nl, hlo⟩ := S.lo hi
  have z := kArr_size (f :: r)
  rw [List.length_cons] at z
  refine getMethod_list_of PySem.F.slot_list_pop PySem.F.type_list_pop (S.gl hi) ?_ ?_
  · exact ⟨_, hlo, rfl⟩
  refine PySem.P.pop_list (n := nl) hlo (kArr_last f r) ?_ (by rw [sizeLine_eq]; (first | lia | omega))
  have e : (kArr (f :: r)).eraseIdxIfInBounds ((kArr (f :: r)).size - 1) = kArr r := by
    rw [kArr_cons, Array.size_push]
    apply Array.toList_inj.mp
    have q : (kArr r).size + 1 - 1 < ((kArr r).push (.ref f.a)).size := by rw [Array.size_push]; (clear hf z; (first | lia | omega))
    rw [Array.eraseIdxIfInBounds, dif_pos q, Array.toList_eraseIdx, Array.toList_push, List.eraseIdx_append_of_length_le (by rw [Array.length_toList]; (clear hf z q; (first | lia | omega)))]
    simp
  have U := IsL.update hlo fun xs => xs.eraseIdxIfInBounds ((kArr (f :: r)).size - 1)
  rw [e] at U
  exact q _ (S.set hi (fun b hb o q => (Heap.get?_update_ne _ _ _ _ hb).trans q) ⟨_, U⟩ S.gens)
end

end
section
section
variable {w : World} {O : OsState} {I J : Im} {x C l : Addr} {M : Str → Option Value} {nm c' f' l' sv mv st : Value} {lv : Array Value} {cs : List Com} {li ll fi fl : Int} {as c1 c2 : List Str}
theorem NodeP.make (H : IHI J x C M) (hk : kindOk (K0 w.params) C M) (p1 : propOk (K0 w.params) C "first_token" 89 88 = true) (p2 : propOk (K0 w.params) C "last_token" 97 96 = true) (a1 : attrOk (K0 w.params) C "_first_token" = true) (a2 : attrOk (K0 w.params) C "_last_token" = true)
    (m1 : M "comments" = some c') (m2 : M "_first_token" = some f') (m3 : M "_last_token" = some l') (hc : OLst J (.ref l) c') (hf : OTok J f' (some (fi, fl))) (hl : OTok J l' (some (li, ll))) (hL : ILst J l lv) (hcs : IComs J lv.toList cs) (hd : DecoOk cs li ll as c1 c2) (hz : cs.length ≤ 20) (hb : ∀ c ∈ cs, Ln c.1 ∧ c.1.length ≤ 12) :
    NodeP w J C x M as c1 c2 := by
  have hc : c' = .ref l := hc
  subst hc
  exact ⟨l, lv, cs, li, ll, ⟨H, hk, p1, p2, a1, a2, ⟨f', fi, fl, m2, hf⟩, ⟨l', m3, hl⟩⟩, m1, hL, hcs, hd, hz, hb⟩
theorem nM1 : nodeM nm c' f' l' "comments" = some c' := (upd_ne (by decide +kernel)).trans ((upd_ne (by decide +kernel)).trans upd_eq)
theorem nM2 : nodeM nm c' f' l' "_first_token" = some f' := (upd_ne (by decide +kernel)).trans upd_eq
theorem nM3 : nodeM nm c' f' l' "_last_token" = some l' := upd_eq
noncomputable def callM (nm c' f' l' sv mv st : Value) : Str → Option Value := upd (upd (upd (upd (nodeM nm c' f' l') "wrapped" (.bool false)) "func" sv) "args" mv) "style" st
theorem cM {y : Str} {v : Value} (h : nodeM nm c' f' l' y = some v) (hy : (["wrapped", "func", "args", "style"] : List Str).contains y = false) : callM nm c' f' l' sv mv st y = some v := by
  have ne : ∀ z ∈ (["wrapped", "func", "args", "style"] : List Str), y ≠ z := by rintro z hz rfl; rw [List.contains_iff_mem.mpr hz] at hy; cases hy
  exact (upd_ne (ne _ (by simp))).trans ((upd_ne (ne _ (by simp))).trans ((upd_ne (ne _ (by simp))).trans ((upd_ne (ne _ (by simp))).trans h)))
theorem NodeP.call (H : IHI J x 336 (callM nm c' f' l' sv mv st)) (hc : OLst J (.ref l) c') (hf : OTok J f' (some (fi, fl))) (hl : OTok J l' (some (li, ll))) (hL : ILst J l lv) (hcs : IComs J lv.toList cs) (hd : DecoOk cs li ll as c1 c2) (hz : cs.length ≤ 20) (hb : ∀ c ∈ cs, Ln c.1 ∧ c.1.length ≤ 12) :
    NodeP w J 336 x (callM nm c' f' l' sv mv st) as c1 c2 :=
  .make H (kindE (by kernel_rfl) ((upd_ne (by decide +kernel)).trans ((upd_ne (by decide +kernel)).trans ((upd_ne (by decide +kernel)).trans upd_eq))) (by kernel_rfl) (by kernel_rfl) (by kernel_rfl)) (by kernel_rfl) (by kernel_rfl) (by kernel_rfl) (by kernel_rfl)
    (cM nM1 (by decide +kernel)) (cM nM2 (by decide +kernel)) (cM nM3 (by decide +kernel)) hc hf hl hL hcs hd hz hb
noncomputable def doM (nm c' f' l' sv : Value) : Str → Option Value := upd (upd (nodeM nm c' f' l') "wrapped" (.bool false)) "body" sv
theorem dM {y : Str} {v : Value} (h : nodeM nm c' f' l' y = some v) (hy : (["wrapped", "body"] : List Str).contains y = false) : doM nm c' f' l' sv y = some v := by
  have ne : ∀ z ∈ (["wrapped", "body"] : List Str), y ≠ z := by rintro z hz rfl; rw [List.contains_iff_mem.mpr hz] at hy; cases hy
  exact (upd_ne (ne _ (by simp))).trans ((upd_ne (ne _ (by simp))).trans h)
theorem NodeP.doN (H : IHI J x 293 (doM nm c' f' l' sv)) (hc : OLst J (.ref l) c') (hf : OTok J f' (some (fi, fl))) (hl : OTok J l' (some (li, ll))) (hL : ILst J l lv) (hcs : IComs J lv.toList cs) (hd : DecoOk cs li ll as c1 c2) (hz : cs.length ≤ 20) (hb : ∀ c ∈ cs, Ln c.1 ∧ c.1.length ≤ 12) :
    NodeP w J 293 x (doM nm c' f' l' sv) as c1 c2 :=
  .make H (kindE (by kernel_rfl) ((upd_ne (by decide +kernel)).trans upd_eq) (by kernel_rfl) (by kernel_rfl) (by kernel_rfl)) (by kernel_rfl) (by kernel_rfl) (by kernel_rfl) (by kernel_rfl)
    (dM nM1 (by decide +kernel)) (dM nM2 (by decide +kernel)) (dM nM3 (by decide +kernel)) hc hf hl hL hcs hd hz hb
noncomputable def blockM (nm c' f' l' sv : Value) : Str → Option Value := upd (nodeM nm c' f' l') "body" sv
theorem bM {y : Str} {v : Value} (h : nodeM nm c' f' l' y = some v) (hy : y ≠ "body") : blockM nm c' f' l' sv y = some v := (upd_ne hy).trans h
theorem NodeP.block (H : IHI J x 203 (blockM nm c' f' l' sv)) (hc : OLst J (.ref l) c') (hf : OTok J f' (some (fi, fl))) (hl : OTok J l' (some (li, ll))) (hL : ILst J l lv) (hcs : IComs J lv.toList cs) (hd : DecoOk cs li ll as c1 c2) (hz : cs.length ≤ 20) (hb : ∀ c ∈ cs, Ln c.1 ∧ c.1.length ≤ 12) :
    NodeP w J 203 x (blockM nm c' f' l' sv) as c1 c2 :=
  .make H (kindN (by kernel_rfl) (by kernel_rfl) (by kernel_rfl)) (by kernel_rfl) (by kernel_rfl) (by kernel_rfl) (by kernel_rfl)
    (bM nM1 (by decide +kernel)) (bM nM2 (by decide +kernel)) (bM nM3 (by decide +kernel)) hc hf hl hL hcs hd hz hb
/-- a call node, made -/
theorem CallH.make {nx al : Addr} {nm2 d2 : Value} {t : Tok} (hP : NodeP w J 336 x (callM nm c' f' l' (.ref nx) (.ref al) st) as c1 c2) (hal : ILst J al #[]) (hN : IHI J nx 258 (upd (upd (upd (nodeM nm2 d2 .none .none) "wrapped" (.bool false)) "id" (.str "f" t)) "attribute" .none)) (hd : OLst J .none d2) :
    CallH w J (.ref x) (as ++ (([] ++ [lastB "f()" c1]) ++ c2)) := by
  obtain ⟨nl, rfl, hnl⟩ := hd
  exact ⟨x, _, nx, _, nl, al, as, c1, c2, t, rfl, hP, (upd_ne (by decide +kernel)).trans ((upd_ne (by decide +kernel)).trans upd_eq), (upd_ne (by decide +kernel)).trans upd_eq, hal, hN, (upd_ne (by decide +kernel)).trans upd_eq, (upd_ne (by decide +kernel)).trans ((upd_ne (by decide +kernel)).trans upd_eq),
    (upd_ne (by decide +kernel)).trans ((upd_ne (by decide +kernel)).trans ((upd_ne (by decide +kernel)).trans nM1)), hnl, rfl⟩
theorem DecoOk.behind {A : List Com} {rs : List Str} {k li ll : Int} {m1 m2 : Nat} {b : Str} (fl : Bool) (ha : ∀ c ∈ A, c.2.1 ≤ li) (hk : li ≤ k) (h0 : 0 ≤ k) (hk2 : k + m1 + m2 < 100000) (hn : rs ≠ []) (hl : ll = rs.length) :
    DecoOk (if fl = true then A ++ (remC b true m1 rs k ++ remC b false m2 (remR b true m1 rs k) (k + m1)) else (remC b true m1 rs k ++ remC b false m2 (remR b true m1 rs k) (k + m1)) ++ A) li ll (A.map (·.1)) (txs k m1) (txs (k + m1) m2) := by
  have := deco_mix (A := A) (C1 := remC b true m1 rs k) (C2 := remC b false m2 (remR b true m1 rs k) (k + m1)) (li := li) (ll := ll) fl ha (fun c hc => ⟨by have := remC_idx h0 (by (clear hk h0 hn hl; (first | lia | omega))) c hc; (clear h0 hk2 hn hl; (first | lia | omega)), by rw [remC_near hn c hc, hl]⟩)
    (fun c hc => ⟨by have := remC_idx (k := k + m1) (by (clear hk hk2 hn hl; (first | lia | omega))) (by (clear hk h0 hn hl; (first | lia | omega))) c hc; (clear h0 hk2 hn hl; (first | lia | omega)), by
      have h1 := remC_far c hc
      have h2 : (remR b true m1 rs k).length = rs.length := by
        rcases List.eq_nil_or_concat rs with rfl | ⟨q, u, rfl⟩
        · exact absurd rfl hn
        · rw [List.concat_eq_append, remR_near]; simp
      (clear hk h0 hk2 hn; (first | lia | omega))⟩)
  rw [remC_txt, remC_txt] at this
  exact this
theorem mixB {A : List Com} {rs rs2 : List Str} {k k2 : Int} {m1 m2 : Nat} {b : Str} (fl : Bool) (ha : ∀ c ∈ A, Ln c.1 ∧ c.1.length ≤ 12) (hz : A.length ≤ 2) (h1 : m1 ≤ 2) (h2 : m2 ≤ 2) (h0 : 0 ≤ k) (hk : k ≤ 50000) (h0' : 0 ≤ k2) (hk2 : k2 ≤ 50000) :
    (if fl = true then A ++ (remC b true m1 rs k ++ remC b false m2 rs2 k2) else (remC b true m1 rs k ++ remC b false m2 rs2 k2) ++ A).length ≤ 20 ∧ ∀ c ∈ (if fl = true then A ++ (remC b true m1 rs k ++ remC b false m2 rs2 k2) else (remC b true m1 rs k ++ remC b false m2 rs2 k2) ++ A), Ln c.1 ∧ c.1.length ≤ 12 := by
  have e1 : (remC b true m1 rs k).length = m1 := remC_len
  have e2 : (remC b false m2 rs2 k2).length = m2 := remC_len
  have g1 : ∀ c ∈ remC b true m1 rs k, Ln c.1 ∧ c.1.length ≤ 12 := fun c hc => (remC_idx h0 (by (clear hz h2 h0' hk2 e2; (first | lia | omega))) c hc).2.2
  have g2 : ∀ c ∈ remC b false m2 rs2 k2, Ln c.1 ∧ c.1.length ≤ 12 := fun c hc => (remC_idx h0' (by (clear hz h1 h0 hk e1; (first | lia | omega))) c hc).2.2
  constructor
  · split <;> simp only [List.length_append, e1, e2] <;> (clear h0 hk h0' hk2; (first | lia | omega))
  · intro c hc
    split at hc <;> simp only [List.mem_append] at hc
    · rcases hc with hc | hc | hc
      · exact ha c hc
      · exact g1 c hc
      · exact g2 c hc
    · rcases hc with (hc | hc) | hc
      · exact g1 c hc
      · exact g2 c hc
      · exact ha c hc
end
theorem bndB {b : Str} {q : List Str} {k : Int} {m1 m2 : Nat} (hb : b.length ≤ 12) (h1 : m1 ≤ 2) (h2 : m2 ≤ 2) (h0 : 0 ≤ k) (hk : k ≤ 50000) (hq : q ≠ []) :
    q.length ≤ (remR b false m2 (remR b true m1 q k) (k + m1)).length ∧ (remR b false m2 (remR b true m1 q k) (k + m1)).length ≤ q.length + 4 ∧ tl (remR b false m2 (remR b true m1 q k) (k + m1)) ≤ tl q + 128 := by
  have y1 := remR_len (b := b) (beside := true) (mm := m1) (rs := q) (k := k)
  have y2 := remR_len (b := b) (beside := false) (mm := m2) (rs := remR b true m1 q k) (k := k + m1)
  have y3 := remR_tl (b := b) (beside := true) (mm := m1) (rs := q) (k := k) (by (clear hb h1 h2 hk hq y1 y2; (first | lia | omega))) (by (clear hb h2 hq y1 y2; (first | lia | omega)))
  have y4 := remR_tl (b := b) (beside := false) (mm := m2) (rs := remR b true m1 q k) (k := k + m1) (by (clear hb h2 hq y1 y2 y3; (first | lia | omega))) (by (clear hb hq y1 y2 y3; (first | lia | omega)))
  have y5 : m1 * (b.length + 20) ≤ 2 * 32 := Nat.mul_le_mul h1 (by (clear h1 h2 h0 hk hq y1 y2 y3 y4; (first | lia | omega)))
  have y6 : m2 * (b.length + 20) ≤ 2 * 32 := Nat.mul_le_mul h2 (by (clear h1 h2 h0 hk hq y1 y2 y3 y4 y5; (first | lia | omega)))
  refine ⟨?_, by clear y3 y4 y5 y6; (clear hb h0 hk hq; (first | lia | omega)), by clear y1 y2; (clear hb h1 h2 h0 hk hq; (first | lia | omega))⟩
  rcases List.eq_nil_or_concat q with rfl | ⟨p, u, rfl⟩
  · exact absurd rfl hq
  · rw [List.concat_eq_append, remR_near, remR_far]; simp
theorem bndF {b : Str} {rs : List Str} {k : Int} {mm : Nat} (hb : b.length ≤ 12) (hm : mm ≤ 2) (h0 : 0 ≤ k) (hk : k ≤ 50000) :
    rs.length ≤ (remR b false mm rs k).length ∧ (remR b false mm rs k).length ≤ rs.length + 2 ∧ tl (remR b false mm rs k) ≤ tl rs + 64 := by
  have z1 := remR_len (b := b) (beside := false) (mm := mm) (rs := rs) (k := k)
  have z2 := remR_tl (b := b) (beside := false) (mm := mm) (rs := rs) (k := k) h0 (by (clear hb z1; (first | lia | omega)))
  have z3 : mm * (b.length + 20) ≤ 2 * 32 := Nat.mul_le_mul hm (by (clear hm h0 hk z1 z2; (first | lia | omega)))
  exact ⟨by rw [remR_far, List.length_append]; (clear hb hm h0 hk z1 z2 z3; (first | lia | omega)), by (clear hb h0 hk z2 z3; (first | lia | omega)), by (clear hb hm h0 hk z1; (first | lia | omega))⟩

end
section
section
variable {w : World} {O : OsState} {I : Im} {A : Around} {E : Value → Shared → Prop} {s : Shared} {L a H R T K : Addr} {cd : Value} {m : Str → Option Value} {ms : Ms} {hc tc : Cel} {rv : Array Value} {f g : Fr} {r fs : List Fr} {wd gg : Nat} {tw tm t tb td tv : Tok} {mv mvv k : Int} {n : Nat} {rs : List Str}
/-- the state between two rounds of the loop -/
noncomputable abbrev lawSt (L H R T K : Addr) (m : Str → Option Value) (hc : Cel) (rv : Array Value) (k : Int) (t : Tok) (fs : List Fr) : Ms := (L, .ns m) :: (H, hc) :: (R, .ls rv) :: (T, .ls #[.int k t]) :: (K, .ls (kArr fs)) :: (frs fs ++ [(373, .tb)])
theorem popL {Q : Flow → Shared → Prop} (hA : Ok A (n + 20)) (S : St w O I (lawSt L H R T K m hc rv k t (f :: g :: r)) s) (hv : LV m H R T K wd tw mv tm) (hd : m "depth" = some (.int (((f :: g :: r).length : Int) - 1) td)) (hb : m "blanks" = some (.str (bl (wd * ((f :: g :: r).length - 1))) tb))
    (hh : HandC I hc) (hr : StrsAre rv.toList rs) (hrs : rs = rowsF wd (f :: g :: r)) (hlen : r.length ≤ 2) (hw : wd ≤ 4) (hok : AllOk w I wd k rs.length gg (f :: g :: r)) (hk0 : 0 ≤ k) (hk : k ≤ 1000) (hrl : rs.length ≤ 1000) (htl : tl rs ≤ 100000) (hgg : gg ≤ 100) (hz : f.vals.size ≠ 0)
    (fin : ∀ s' J m' hc' rv' rs' k' t' g', Le I J → St w O J (lawSt L H R T K m' hc' rv' k' t' (g' :: r)) s' → LV m' H R T K wd tw mv tm → HandC J hc' → StrsAre rv'.toList rs' → rs' = rowsF wd (g' :: r) → AllOk w J wd k' rs'.length (gg + 1) (g' :: r) →
      k ≤ k' → k' ≤ k + 10 → rs'.length ≤ rs.length + 10 → tl rs' ≤ tl rs + 400 → g'.vals.size ≠ 0 → Q .cont s') :
    wpAny (model PG w) A (execs ifP (eL L a cd)) Q E s := by
  obtain ⟨⟨f1, ⟨av, acs, ha1, ha2, ha3, ha4, ha5⟩, f3, f4, f5⟩, hok⟩ := hok
  obtain ⟨ffi, ffl, hfirst⟩ := f3 (by simp)
  obtain ⟨li, ll, hlast, hli, hll⟩ := f4 hz
  have hbl1 : (bl (wd * ((f :: g :: r).length - 1))).length ≤ 12 := by
    rw [bl_len]
    have : wd * ((f :: g :: r).length - 1) ≤ 4 * 3 := Nat.mul_le_mul hw (by simp; (clear hw hk0 hk hrl htl hgg hz f5 ha5 hli hll; (first | lia | omega)))
    (clear hlen hw hk0 hk hrl htl hgg hz f5 ha5 hli hll; (first | lia | omega))
  have hbl2 : wd * r.length ≤ 4 * 2 := Nat.mul_le_mul hw hlen
  have hbl3 : (bl (wd * r.length)).length = wd * r.length := bl_len _
  have hrz := StrsAre.len hr
  rw [Array.length_toList] at hrz
  change wpAny _ A (execs (_ :: _ :: _ :: _ :: _ :: _ :: _ :: _ :: _ :: _ :: []) (eL L a cd)) _ _ _
  refine wpAny_execs_cons (Assign_Tuple (methodCall_KW ?_))
  refine nL S eLok (by kernel_rfl) hv.stack ?_ (by decide +kernel)
  refine popM (i := 4) S rfl (by simp; (clear hw hk0 hk hrl htl hgg hz f5 ha5 hli hll hbl1 hbl2 hbl3 hrz; (first | lia | omega))) fun s₁ S => ?_
  have S : St w O I ((L, .ns m) :: (H, hc) :: (R, .ls rv) :: (T, .ls #[.int k t]) :: (K, .ls (kArr (g :: r))) :: (f.a, .ls #[.ref f.s, f.first, .ref f.ah, f.last]) :: (f.s, .ls f.vals) :: (frs (g :: r) ++ [(373, .tb)])) s₁ := S
  refine unpackL hA S (S.gl (i := 5) rfl) rfl rfl fun s₂ S => ?_
  ((with_reducible show wpAny _ _ (assignInOrder (List.map _ (assignEach _ _)) _) _ _ _); unfold assignEach; dsimp only [List.map])
  refine aioN (asgN S eLok (by kernel_rfl) fun s₃ S => ?_)
  ((with_reducible show wpAny _ _ (assignInOrder (List.map _ (assignEach _ _)) _) _ _ _); unfold assignEach; dsimp only [List.map])
  refine aioN (asgN S eLok (by kernel_rfl) fun s₄ S => ?_)
  ((with_reducible show wpAny _ _ (assignInOrder (List.map _ (assignEach _ _)) _) _ _ _); unfold assignEach; dsimp only [List.map])
  refine aioN (asgN S eLok (by kernel_rfl) fun s₅ S => ?_)
  ((with_reducible show wpAny _ _ (assignInOrder (List.map _ (assignEach _ _)) _) _ _ _); unfold assignEach; dsimp only [List.map])
  refine aioN (asgN S eLok (by kernel_rfl) fun s₆ S => ?_)
  ((with_reducible show wpAny _ _ (assignInOrder (List.map _ (assignEach _ _)) _) _ _ _); unfold assignEach; dsimp only [List.map])
  refine assignInOrder_nil ?_
  have hv₁ := (((hv.upd (x := "statements") (v := .ref f.s) (by decide +kernel)).upd (x := "first") (v := f.first) (by decide +kernel)).upd (x := "ahead") (v := .ref f.ah) (by decide +kernel)).upd (x := "last") (v := f.last) (by decide +kernel)
  have hd₁ : upd (upd (upd (upd m "statements" (.ref f.s)) "first" f.first) "ahead" (.ref f.ah)) "last" f.last "depth" = some (.int (((f :: g :: r).length : Int) - 1) td) := (upd_ne (by decide +kernel)).trans ((upd_ne (by decide +kernel)).trans ((upd_ne (by decide +kernel)).trans ((upd_ne (by decide +kernel)).trans hd)))
  have hb₁ : upd (upd (upd (upd m "statements" (.ref f.s)) "first" f.first) "ahead" (.ref f.ah)) "last" f.last "blanks" = some (.str (bl (wd * ((f :: g :: r).length - 1))) tb) := (upd_ne (by decide +kernel)).trans ((upd_ne (by decide +kernel)).trans ((upd_ne (by decide +kernel)).trans ((upd_ne (by decide +kernel)).trans hb)))
  have hs₁ : upd (upd (upd (upd m "statements" (.ref f.s)) "first" f.first) "ahead" (.ref f.ah)) "last" f.last "statements" = some (.ref f.s) := (upd_ne (by decide +kernel)).trans ((upd_ne (by decide +kernel)).trans ((upd_ne (by decide +kernel)).trans upd_eq))
  have hf₁ : upd (upd (upd (upd m "statements" (.ref f.s)) "first" f.first) "ahead" (.ref f.ah)) "last" f.last "first" = some f.first := (upd_ne (by decide +kernel)).trans ((upd_ne (by decide +kernel)).trans upd_eq)
  have hah₁ : upd (upd (upd (upd m "statements" (.ref f.s)) "first" f.first) "ahead" (.ref f.ah)) "last" f.last "ahead" = some (.ref f.ah) := (upd_ne (by decide +kernel)).trans upd_eq
  have hl₁ : upd (upd (upd (upd m "statements" (.ref f.s)) "first" f.first) "ahead" (.ref f.ah)) "last" f.last "last" = some f.last := upd_eq
  generalize upd (upd (upd (upd m "statements" (.ref f.s)) "first" f.first) "ahead" (.ref f.ah)) "last" f.last = m₁ at *
  have S := St.front (l₁ := [_, _, _, _, _, _]) S
  obtain ⟨J₁, S, l₁, hL⟩ := S.fixL
  have S : St w O J₁ (lawSt L H R T K m₁ hc rv k t (g :: r)) s₆ := (St.front (l₁ := [_, _, _, _, _]) S).tail
  refine wpAny_execs_cons (wpAny_Assign_Name (remL (n := n + 10) hA S hv₁ hb₁ (hh.le l₁) hr hk0 (by (clear hlen hw hrl htl hgg hz f5 ha5 hli hll hbl1 hbl2 hbl3 hrz; (first | lia | omega))) (by (clear hlen hw hk0 hk hrl hgg hz f5 ha5 hli hll hbl2 hbl3 hrz; (first | lia | omega))) (by (clear hlen hw hk0 hk htl hgg hz f5 ha5 hli hll hbl1 hbl2 hbl3; (first | lia | omega))) fun s₇ J₂ l lv rv₂ t₂ hc₂ mm l₂ hmm hll₂ hcs₂ hr₂ hh₂ S => ?_))
  refine sL S eLok (by kernel_rfl) fun s₈ S => ?_
  have hv₂ := hv₁.upd (x := "laid") (v := .ref l) (by decide +kernel)
  have hd₂ : upd m₁ "laid" (.ref l) "depth" = some (.int (((f :: g :: r).length : Int) - 1) td) := (upd_ne (by decide +kernel)).trans hd₁
  have hs₂ : upd m₁ "laid" (.ref l) "statements" = some (.ref f.s) := (upd_ne (by decide +kernel)).trans hs₁
  have hf₂ : upd m₁ "laid" (.ref l) "first" = some f.first := (upd_ne (by decide +kernel)).trans hf₁
  have hah₂ : upd m₁ "laid" (.ref l) "ahead" = some (.ref f.ah) := (upd_ne (by decide +kernel)).trans hah₁
  have hl₂ : upd m₁ "laid" (.ref l) "last" = some f.last := (upd_ne (by decide +kernel)).trans hl₁
  have hla₂ : upd m₁ "laid" (.ref l) "laid" = some (.ref l) := upd_eq
  generalize upd m₁ "laid" (.ref l) = m₂ at *
  refine wpAny_execs_cons (wpAny_Assign_Name ?_)
  refine callK (v := .ref 203) S eLok (by kernel_rfl) (gl5 _) (by kernel_rfl) (by decide +kernel) (by rfl) ?_
  refine wpAny_items_cons ?_
  refine nL S eLok (by kernel_rfl) hs₂ ?_ (by decide +kernel)
  refine wpAny_items_nil ?_
  refine wpAny_evalAll_cons (wpAny_bind ?_)
  refine nL S eLok (by kernel_rfl) hla₂ ?_ (by decide +kernel)
  refine wpAny_bind (wpAny_standAt (wpAny_pure (wpAny_evalAll_cons (wpAny_bind ?_))))
  refine nL S eLok (by kernel_rfl) hf₂ ?_ (by decide +kernel)
  refine wpAny_bind (wpAny_standAt (wpAny_pure (wpAny_evalAll_cons (wpAny_bind ?_))))
  refine nL S eLok (by kernel_rfl) hl₂ ?_ (by decide +kernel)
  refine wpAny_bind (wpAny_standAt (wpAny_pure (wpAny_evalAll_nil ?_)))
  refine ⟨S.kin, wpAny_call (newBlock (n := n + 14) hA S (.inr ⟨l, rfl⟩) (of := some (ffi, ffl)) ((hfirst.le l₁).le l₂) (ol := some (li, ll)) ((hlast.le l₁).le l₂) (Kw.all _ _ _) fun s₉ J₃ bx bnm bc bf bl' l₃ hbc hbf hbl' HB S => ?_)⟩
  have hbx : NodeP w J₃ 203 bx (blockM bnm bc bf bl' (.ref f.s)) [] [] (txs k mm) := by
    refine .block HB hbc hbf hbl' (hll₂.le l₃) (hcs₂.le l₃) ?_ (by rw [remC_len]; (clear hlen hw hk0 hk hrl htl hgg hz f5 ha5 hli hll hbl1 hbl2 hbl3 hrz; (first | lia | omega))) fun c hc => (remC_idx hk0 (by (clear hlen hw hrl htl hgg hz f5 ha5 hli hll hbl1 hbl2 hbl3 hrz; (first | lia | omega))) c hc).2.2
    have := deco_mix (A := []) (C1 := []) (C2 := remC (bl (wd * ((f :: g :: r).length - 1))) false mm rs k) (li := li) (ll := ll) true (by simp) (by simp) (fun c hc => ⟨by have := remC_idx hk0 (by (clear hlen hw hrl htl hgg hz f5 ha5 hli hll hbl1 hbl2 hbl3 hrz; (first | lia | omega))) c hc; (clear hlen hw hk0 hk hrl htl hgg hz f5 ha5 hll hbl1 hbl2 hbl3 hrz hmm; (first | lia | omega)), by have := remC_far c hc; (clear hlen hw hk0 hk hrl htl hgg hz f5 ha5 hli hbl1 hbl2 hbl3 hmm; (first | lia | omega))⟩)
    rw [remC_txt] at this
    exact this
  refine sL S eLok (by kernel_rfl) fun s₁₀ S => ?_
  have hv₃ := hv₂.upd (x := "body") (v := .ref bx) (by decide +kernel)
  have hd₃ : upd m₂ "body" (.ref bx) "depth" = some (.int (((f :: g :: r).length : Int) - 1) td) := (upd_ne (by decide +kernel)).trans hd₂
  have hf₃ : upd m₂ "body" (.ref bx) "first" = some f.first := (upd_ne (by decide +kernel)).trans hf₂
  have hah₃ : upd m₂ "body" (.ref bx) "ahead" = some (.ref f.ah) := (upd_ne (by decide +kernel)).trans hah₂
  have hbo₃ : upd m₂ "body" (.ref bx) "body" = some (.ref bx) := upd_eq
  generalize upd m₂ "body" (.ref bx) = m₃ at *
  refine wpAny_execs_cons (wpAny_Assign_Name (wpAny_BinOp ?_))
  refine cS S fun s₁₁ t₁₁ S => ?_
  refine wpAny_BinOp ?_
  refine nL S eLok (by kernel_rfl) hv₃.width ?_ (by decide +kernel)
  refine wpAny_BinOp ?_
  refine nL S eLok (by kernel_rfl) hd₃ ?_ (by decide +kernel)
  refine cI S fun s₁₂ t₁₂ S => ?_
  refine oSub S fun s₁₃ t₁₃ S => ?_
  have e2 : (wd : Int) * (((f :: g :: r).length : Int) - 1 - 1) = ((wd * r.length : Nat) : Int) := by
    rw [show ((f :: g :: r).length : Int) - 1 - 1 = (r.length : Int) by simp only [List.length_cons]; (clear hlen hw hk0 hk hrl htl hgg hz f5 ha5 hli hll hbl1 hbl2 hbl3 hrz hmm; (first | lia | omega))]; exact (Int.natCast_mul _ _).symm
  refine oMul S (.of_left (bits5 _ hw)) fun s₁₄ t₁₄ S => ?_
  rw [e2]
  refine SB.mul (PyProof.Rows.mulOk_of 1 100 (by decide +kernel) (by (clear hlen hw hk0 hk hrl htl hgg hz f5 ha5 hli hll hbl1 hrz hmm; (first | lia | omega))) (by (clear hlen hw hk0 hk hrl htl hgg hz f5 ha5 hli hll hbl1 hrz hmm; (first | lia | omega))) (by decide) (by decide)) fun u kk => ?_
  have S := S.toks (t := kk)
  rw [bl_mul, Int.toNat_natCast]
  refine sL S eLok (by kernel_rfl) fun s₁₅ S => ?_
  have hv₄ := hv₃.upd (x := "blanks") (v := .str (bl (wd * r.length)) u) (by decide +kernel)
  have hf₄ : upd m₃ "blanks" (.str (bl (wd * r.length)) u) "first" = some f.first := (upd_ne (by decide +kernel)).trans hf₃
  have hah₄ : upd m₃ "blanks" (.str (bl (wd * r.length)) u) "ahead" = some (.ref f.ah) := (upd_ne (by decide +kernel)).trans hah₃
  have hbo₄ : upd m₃ "blanks" (.str (bl (wd * r.length)) u) "body" = some (.ref bx) := (upd_ne (by decide +kernel)).trans hbo₃
  have hb₄ : upd m₃ "blanks" (.str (bl (wd * r.length)) u) "blanks" = some (.str (bl (wd * r.length)) u) := upd_eq
  generalize upd m₃ "blanks" (.str (bl (wd * r.length)) u) = m₄ at *
  obtain ⟨y8, z1, z2⟩ := bndF (b := bl (wd * ((f :: g :: r).length - 1))) (rs := rs) (k := k) (mm := mm) hbl1 hmm hk0 (by (clear hlen hw hrl htl hgg hz f5 ha5 hli hll hbl1 hbl2 hbl3 hrz hmm e2; (first | lia | omega)))
  have zr₂ := StrsAre.len hr₂
  rw [Array.length_toList] at zr₂
  have e3 : ("end" : Str).length = 3 := by decide +kernel
  refine wpAny_execs_cons (rowA S hv₄.rows hb₄ hr₂ (by (clear hlen hw hk0 hk htl hgg hz f5 ha5 hli hll hbl1 hbl2 hbl3 hmm e2 z2 e3; (first | lia | omega))) (by (clear hlen hw hk0 hk hrl htl hgg hz f5 ha5 hli hll hbl1 hrz hmm y8 z1 z2 zr₂; (first | lia | omega))) fun s₁₆ rv₃ hr₃ S => ?_)
  generalize hrs₂ : remR (bl (wd * ((f :: g :: r).length - 1))) false mm rs k = rs₂ at *
  have zr₃ := StrsAre.len hr₃
  rw [Array.length_toList, List.length_append, List.length_singleton] at zr₃
  refine wpAny_execs_cons (wpAny_Assign_Name (signL (n := n + 17) hA S hv₄ (by (clear hlen hw hk0 hk htl hgg hz f5 ha5 hli hll hbl1 hbl2 hbl3 hmm e2 e3 z2; (first | lia | omega))) fun s₁₇ J₄ la t₄ l₄ hla S => ?_))
  refine sL S eLok (by kernel_rfl) fun s₁₈ S => ?_
  have hv₅ := hv₄.upd (x := "last") (v := la) (by decide +kernel)
  have hf₅ : upd m₄ "last" la "first" = some f.first := (upd_ne (by decide +kernel)).trans hf₄
  have hah₅ : upd m₄ "last" la "ahead" = some (.ref f.ah) := (upd_ne (by decide +kernel)).trans hah₄
  have hbo₅ : upd m₄ "last" la "body" = some (.ref bx) := (upd_ne (by decide +kernel)).trans hbo₄
  have hb₅ : upd m₄ "last" la "blanks" = some (.str (bl (wd * r.length)) u) := (upd_ne (by decide +kernel)).trans hb₄
  have hl₅ : upd m₄ "last" la "last" = some la := upd_eq
  generalize upd m₄ "last" la = m₅ at *
  have z4 : tl (rs₂ ++ [bl (wd * r.length) ++ ("end" : Str)]) ≤ tl rs + 80 := by rw [tl_app, tl_one, Str.length_append']; (clear hlen hw hk0 hk hrl htl hgg hz f5 ha5 hli hll hbl1 hrz hmm y8 z1 zr₂ zr₃; (first | lia | omega))
  refine wpAny_execs_cons (wpAny_Assign_Name (behL (n := n + 10) hA S hv₅ hb₅ hah₅ (((hh₂.le l₃).le l₄)) hr₃ ((((ha1.le l₁).le l₂).le l₃).le l₄) ((((ha2.le l₁).le l₂).le l₃).le l₄) (by (clear hlen hw hrl htl hgg hz f5 ha5 hli hll hbl1 hbl2 hbl3 hrz e2 e3 y8 z1 z2 zr₂ zr₃ z4; (first | lia | omega))) (by (clear hlen hw hrl htl hgg hz f5 ha5 hli hll hbl1 hbl2 hbl3 hrz e2 e3 y8 z1 z2 zr₂ zr₃ z4; (first | lia | omega))) (by simp) (by (clear hlen hw hk0 hk hrl hgg hz f5 ha5 hli hll hbl1 hrz hmm e3 y8 z1 z2 zr₂ zr₃; (first | lia | omega))) (by rw [List.length_append, List.length_singleton]; (clear hlen hw hk0 hk htl hgg hz f5 ha5 hli hll hbl1 hbl2 hbl3 hmm e2 e3 z2 z4; (first | lia | omega))) (by (clear hlen hw hk0 hk hrl htl hgg hz f5 hli hll hbl1 hbl2 hbl3 hrz hmm e2 e3 y8 z1 z2 zr₂ zr₃ z4; (first | lia | omega)))
    fun s₁₉ J₅ l5 lv5 rv₅ t₅ hc₅ m1 m2 fl l₅ hh₅ hm1 hm2 hll₅ hcs₅ hr₅ S => ?_))
  refine sL S eLok (by kernel_rfl) fun s₂₀ S => ?_
  have hv₆ := hv₅.upd (x := "laid") (v := .ref l5) (by decide +kernel)
  have hf₆ : upd m₅ "laid" (.ref l5) "first" = some f.first := (upd_ne (by decide +kernel)).trans hf₅
  have hbo₆ : upd m₅ "laid" (.ref l5) "body" = some (.ref bx) := (upd_ne (by decide +kernel)).trans hbo₅
  have hl₆ : upd m₅ "laid" (.ref l5) "last" = some la := (upd_ne (by decide +kernel)).trans hl₅
  have hla₆ : upd m₅ "laid" (.ref l5) "laid" = some (.ref l5) := upd_eq
  generalize upd m₅ "laid" (.ref l5) = m₆ at *
  obtain ⟨⟨g1, gah, g3, g4, g5⟩, hokr⟩ := hok
  refine wpAny_execs_cons (appendO (O := O) ?_)
  refine topI S hv₆.stack (by (clear hw hk0 hk hrl htl hgg hz f5 ha5 hli hll hbl1 hbl2 hbl3 hrz hmm e2 e3 y8 z1 z2 zr₂ zr₃ z4 hm1 hm2 gah g5; (first | lia | omega))) fun s₂₁ S => ?_
  obtain ⟨nl, hlo⟩ := S.lo (i := 6) rfl
  refine ⟨g.s, g.vals, nl, rfl, hlo, ?_⟩
  refine callK (v := .ref 293) S eLok (by kernel_rfl) (gl8 _) (by kernel_rfl) (by decide +kernel) (by rfl) ?_
  refine wpAny_items_cons ?_
  refine nL S eLok (by kernel_rfl) hbo₆ ?_ (by decide +kernel)
  refine wpAny_items_nil ?_
  refine wpAny_evalAll_cons (wpAny_bind ?_)
  refine nL S eLok (by kernel_rfl) hla₆ ?_ (by decide +kernel)
  refine wpAny_bind (wpAny_standAt (wpAny_pure (wpAny_evalAll_cons (wpAny_bind ?_))))
  refine nL S eLok (by kernel_rfl) hf₆ ?_ (by decide +kernel)
  refine wpAny_bind (wpAny_standAt (wpAny_pure (wpAny_evalAll_cons (wpAny_bind ?_))))
  refine nL S eLok (by kernel_rfl) hl₆ ?_ (by decide +kernel)
  refine wpAny_bind (wpAny_standAt (wpAny_pure (wpAny_evalAll_nil ?_)))
  have hlae : ITok J₅ la (k + mm + 1) (rv₃.size : Int) := hla.le l₅
  refine ⟨S.kin, wpAny_call (newDo (n := n + 13) hA S (.inr ⟨l5, rfl⟩) (of := some (ffi, ffl)) (((((hfirst.le l₁).le l₂).le l₃).le l₄).le l₅) (ol := some (k + mm + 1, (rv₃.size : Int))) hlae (Kw.all _ _ _) fun s₂₂ J₆ dx dnm dc df dl l₆ hdc hdf hdl HD S => ?_)⟩
  have hmix := mixB (A := acs) (rs := rs₂ ++ [bl (wd * r.length) ++ ("end" : Str)]) (rs2 := remR (bl (wd * r.length)) true m1 (rs₂ ++ [bl (wd * r.length) ++ ("end" : Str)]) (k + mm + 1)) (k := k + mm + 1) (k2 := k + mm + 1 + m1) (m1 := m1) (m2 := m2) (b := bl (wd * r.length)) fl (fun c hc => (ha4 c hc).2) ha5 hm1 hm2 (by (clear hlen hw hrl htl hgg hz f5 ha5 hli hll hbl1 hbl2 hbl3 hrz e2 e3 y8 z1 z2 zr₂ zr₃ z4 hm1 hm2 gah g5; (first | lia | omega))) (by (clear hlen hw hrl htl hgg hz f5 ha5 hli hll hbl1 hbl2 hbl3 hrz e2 e3 y8 z1 z2 zr₂ zr₃ z4 hm1 hm2 gah g5; (first | lia | omega))) (by (clear hlen hw hrl htl hgg hz f5 ha5 hli hll hbl1 hbl2 hbl3 hrz e2 e3 y8 z1 z2 zr₂ zr₃ z4 hm2 gah g5; (first | lia | omega))) (by (clear hlen hw hrl htl hgg hz f5 ha5 hli hll hbl1 hbl2 hbl3 hrz e2 e3 y8 z1 z2 zr₂ zr₃ z4 hm2 gah g5; (first | lia | omega)))
  have hdo : NodeP w J₆ 293 dx (doM dnm dc df dl (.ref bx)) (acs.map (·.1)) (txs (k + mm + 1) m1) (txs (k + mm + 1 + m1) m2) :=
    .doN HD hdc hdf hdl (hll₅.le l₆) (hcs₅.le l₆) (DecoOk.behind fl (fun c hc => by have := (ha4 c hc).1; (clear hlen hw hk0 hk hrl htl hgg hz f5 ha5 hli hll hbl1 hbl2 hbl3 hrz e2 e3 y8 z1 z2 zr₂ zr₃ z4 hm1 hm2 gah g5 hmix; (first | lia | omega))) (by (clear hlen hw hk0 hk hrl htl hgg hz f5 ha5 hli hll hbl1 hbl2 hbl3 hrz hmm e2 e3 y8 z1 z2 zr₂ zr₃ z4 hm1 hm2 gah g5 hmix; (first | lia | omega))) (by (clear hlen hw hrl htl hgg hz f5 ha5 hli hll hbl1 hbl2 hbl3 hrz e2 e3 y8 z1 z2 zr₂ zr₃ z4 hm1 hm2 gah g5 hmix; (first | lia | omega))) (by (clear hlen hw hrl htl hgg hz f5 ha5 hli hll hbl1 hbl2 hbl3 hrz e2 e3 y8 z1 z2 zr₂ zr₃ z4 gah g5 hmix; (first | lia | omega))) (by simp) (by rw [zr₃, List.length_append, List.length_singleton])) hmix.1 hmix.2
  have hlef : Le I J₆ := ((((l₁.trans l₂).trans l₃).trans l₄).trans l₅).trans l₆
  have ed : 3 - r.length = (3 - (g :: r).length) + 1 := by rw [List.length_cons]; (clear hw hk0 hk hrl htl hgg hz f5 ha5 hli hll hbl1 hbl2 hbl3 hrz hmm e2 e3 y8 z1 z2 zr₂ zr₃ z4 hm1 hm2 gah g5 hmix; (first | lia | omega))
  have hnode : NodeH w J₆ wd (3 - r.length) (.ref dx) (f.as ++ (((("do" : Str) :: (f.lss.flatten ++ txs k mm).map (bl wd ++ ·)) ++ [lastB "end" (txs (k + mm + 1) m1)]) ++ txs (k + mm + 1 + m1) m2)) := by
    rw [ed, ← ha3]
    refine .inr ⟨dx, _, bx, _, f.s, f.vals, f.lss, _, _, _, _, rfl, hdo, upd_eq, ((hbx.le l₄).le l₅).le l₆, upd_eq, ((((hL.le l₂).le l₃).le l₄).le l₅).le l₆, f1.mono fun _ _ z => NodeH.le hlef z, ?_, rfl⟩
    intro e
    rw [e] at f1
    have := f1.1
    rw [Array.length_toList] at this
    exact hz this
  refine ⟨J₆, _, 6, g.vals, S, rfl, by (clear hlen hw hk0 hk hrl htl hz f5 ha5 hli hll hbl1 hbl2 hbl3 hrz hmm e2 e3 y8 z1 z2 zr₂ zr₃ z4 hm1 hm2 gah hmix ed; (first | lia | omega)), fun s₂₃ S => ?_⟩
  have S : St w O J₆ ((L, .ns m₆) :: (H, hc₅) :: (R, .ls rv₅) :: (T, .ls #[.int (k + mm + 1 + m1 + m2) t₅]) :: (K, .ls (kArr (g :: r))) :: (g.a, .ls #[.ref g.s, g.first, .ref g.ah, g.last]) :: (g.s, .ls (g.vals.push (.ref dx))) :: (frs r ++ [(373, .tb)])) s₂₃ := S
  refine wpAny_execs_cons (wpAny_Assign_Subscript ?_)
  refine nL S eLok (by kernel_rfl) hl₆ ?_ (by decide +kernel)
  refine topE S hv₆.stack (by (clear hw hk0 hk hrl htl hgg hz f5 ha5 hli hll hbl1 hbl2 hbl3 hrz hmm e2 e3 y8 z1 z2 zr₂ zr₃ z4 hm1 hm2 gah g5 hmix ed; (first | lia | omega))) fun s₂₄ S => ?_
  refine cI S fun s₂₅ t₂₅ S => ?_
  refine setI (i := 5) S rfl (by decide) (by show (3 : Int) < 4; decide) (by show 4 < 1000000; decide) fun s₂₆ S => ?_
  refine wpAny_execs_cons (wpAny_Continue ?_)
  have q1 : remR (bl (wd * r.length)) false m2 (remR (bl (wd * r.length)) true m1 (rs₂ ++ [bl (wd * r.length) ++ ("end" : Str)]) (k + mm + 1)) (k + mm + 1 + m1) =
      rowsF wd ({ g with vals := g.vals.push (.ref dx), lss := g.lss ++ [f.as ++ (((("do" : Str) :: (f.lss.flatten ++ txs k mm).map (bl wd ++ ·)) ++ [lastB "end" (txs (k + mm + 1) m1)]) ++ txs (k + mm + 1 + m1) m2)], last := la } :: r) := by
    rw [rowsF_add, ← rowsF_pop, remR_near, remR_far, lastB_app, ← hrs₂, remR_far, hrs]
    rfl
  have hB := bndB (b := bl (wd * r.length)) (q := rs₂ ++ [bl (wd * r.length) ++ ("end" : Str)]) (k := k + mm + 1) (m1 := m1) (m2 := m2) (by (clear hlen hw hk0 hk hrl htl hgg hz f5 ha5 hli hll hbl1 hrz hmm e3 y8 z1 z2 zr₂ zr₃ z4 hm1 hm2 gah g5 hmix ed; (first | lia | omega))) hm1 hm2 (by (clear hlen hw hrl htl hgg hz f5 ha5 hli hll hbl1 hbl2 hbl3 hrz e2 e3 y8 z1 z2 zr₂ zr₃ z4 hm1 hm2 gah g5 hmix ed; (first | lia | omega))) (by (clear hlen hw hrl htl hgg hz f5 ha5 hli hll hbl1 hbl2 hbl3 hrz e2 e3 y8 z1 z2 zr₂ zr₃ z4 hm1 hm2 gah g5 hmix ed; (first | lia | omega))) (by simp)
  generalize remR (bl (wd * r.length)) false m2 (remR (bl (wd * r.length)) true m1 (rs₂ ++ [bl (wd * r.length) ++ ("end" : Str)]) (k + mm + 1)) (k + mm + 1 + m1) = rs₅ at hr₅ q1 hB
  rw [List.length_append, List.length_singleton] at hB
  obtain ⟨y1, y2, y3⟩ := hB
  refine fin _ J₆ m₆ hc₅ rv₅ _ (k + mm + 1 + m1 + m2) t₅ { g with vals := g.vals.push (.ref dx), lss := g.lss ++ [f.as ++ (((("do" : Str) :: (f.lss.flatten ++ txs k mm).map (bl wd ++ ·)) ++ [lastB "end" (txs (k + mm + 1) m1)]) ++ txs (k + mm + 1 + m1) m2)], last := la } hlef S hv₆ (hh₅.le l₆) hr₅ q1 ⟨⟨?_, ?_, ?_, ?_, ?_⟩, ?_⟩ (by (clear hlen hw hk0 hk hrl htl hgg hz f5 ha5 hli hll hbl1 hbl2 hbl3 hrz e2 e3 y8 z1 z2 zr₂ zr₃ z4 gah g5 hmix ed y1 y2 y3; (first | lia | omega))) (by (clear hlen hw hk0 hk hrl htl hgg hz f5 ha5 hli hll hbl1 hbl2 hbl3 hrz e2 e3 y8 z1 z2 zr₂ zr₃ z4 gah g5 hmix ed y1 y2 y3; (first | lia | omega))) (by (clear hlen hw hk0 hk hrl htl hgg hz f5 ha5 hli hll hbl1 hbl2 hbl3 hmm e2 e3 z2 z4 hm1 hm2 gah g5 hmix ed y3; (first | lia | omega))) (by (clear hlen hw hk0 hk hrl htl hgg hz f5 ha5 hli hll hbl1 hbl2 hbl3 hrz hmm e2 e3 y8 z1 z2 zr₂ zr₃ hm1 hm2 gah g5 hmix ed y1 y2; (first | lia | omega))) ?_
  · rw [Array.toList_push]
    exact (g1.mono fun _ _ z => NodeH.le hlef z).push hnode
  · obtain ⟨bv, bcs, b1, b2, b3, b4, b5⟩ := gah
    exact ⟨bv, bcs, b1.le hlef, b2.le hlef, b3, fun c hc => by have := b4 c hc; exact ⟨by (clear hlen hw hk0 hk hrl htl hgg hz f5 ha5 hli hll hbl1 hbl2 hbl3 hrz e2 e3 y8 z1 z2 zr₂ zr₃ z4 g5 hmix ed y1 y2 y3 b5; (first | lia | omega)), this.2⟩, b5⟩
  · intro q; obtain ⟨fi, fl, z⟩ := g3 q; exact ⟨fi, fl, z.le hlef⟩
  · intro _; exact ⟨_, _, hlae.le l₆, by (clear hlen hw hk0 hk hrl htl hgg hz f5 ha5 hli hll hbl1 hbl2 hbl3 hrz hmm e2 e3 y8 z1 z2 zr₂ zr₃ z4 gah g5 hmix ed y1 y2 y3; (first | lia | omega)), by (clear hlen hw hk0 hk hrl htl hgg hz f5 ha5 hli hll hbl1 hbl2 hbl3 hrz hmm e2 e3 y8 z1 z2 z4 hm1 hm2 gah g5 hmix ed y3; (first | lia | omega))⟩
  · show (g.vals.push (.ref dx)).size ≤ gg + 1
    rw [Array.size_push]; (clear hlen hw hk0 hk hrl htl hgg hz f5 ha5 hli hll hbl1 hbl2 hbl3 hrz hmm e2 e3 y8 z1 z2 zr₂ zr₃ z4 hm1 hm2 gah hmix ed y1 y2 y3; (first | lia | omega))
  · exact hokr.up hlef (by (clear hlen hw hk0 hk hrl htl hgg hz f5 ha5 hli hll hbl1 hbl2 hbl3 hrz e2 e3 y8 z1 z2 zr₂ zr₃ z4 gah g5 hmix ed y1 y2 y3; (first | lia | omega))) (by (clear hlen hw hk0 hk hrl htl hgg hz f5 ha5 hli hll hbl1 hbl2 hbl3 hmm e2 e3 z2 z4 hm1 hm2 gah g5 hmix ed y3; (first | lia | omega))) (by (clear hlen hw hk0 hk hrl htl hgg hz f5 ha5 hli hll hbl1 hbl2 hbl3 hrz hmm e2 e3 y8 z1 z2 zr₂ zr₃ z4 hm1 hm2 gah g5 hmix ed y1 y2 y3; (first | lia | omega)))
  · show (g.vals.push (.ref dx)).size ≠ 0
    rw [Array.size_push]; (clear hlen hw hk0 hk hrl htl hgg hz f5 ha5 hli hll hbl1 hbl2 hbl3 hrz hmm e2 e3 y8 z1 z2 zr₂ zr₃ z4 hm1 hm2 gah g5 hmix ed y1 y2 y3; (first | lia | omega))
end

end
section
noncomputable def ifE : Stmt → List Stmt | .If _ _ e _ => e | _ => []
noncomputable def ifD : Stmt := whB.getD 6 (.Pass ⟨0, 0, 0, 0⟩)
section
variable {w : World} {O : OsState} {I : Im} {A : Around} {E : Value → Shared → Prop} {s : Shared} {L a H R T K al : Addr} {cd : Value} {m : Str → Option Value} {ms : Ms} {hc tc : Cel} {rv av : Array Value} {f g : Fr} {r fs : List Fr} {wd gg : Nat} {tw tm t tb td tv : Tok} {mv mvv k : Int} {n : Nat} {rs as : List Str} {acs : List Com}
theorem callX {Q : Flow → Shared → Prop} (hA : Ok A (n + 20)) (S : St w O I (lawSt L H R T K m hc rv k t (f :: r)) s) (hv : LV m H R T K wd tw mv tm) (hb : m "blanks" = some (.str (bl (wd * r.length)) tb)) (ham : m "ahead" = some (.ref al)) (ha1 : ILst I al av) (ha2 : IComs I av.toList acs) (ha3 : acs.map (·.1) = as) (ha4 : ∀ c ∈ acs, c.2.1 ≤ k ∧ Ln c.1 ∧ c.1.length ≤ 12) (ha5 : acs.length ≤ 2)
    (hh : HandC I hc) (hr : StrsAre rv.toList rs) (hrs : rs = rowsF wd (f :: r) ++ as.map (bl (wd * r.length) ++ ·)) (hlen : r.length ≤ 3) (hw : wd ≤ 4) (hok : AllOk w I wd k rs.length gg (f :: r)) (hk0 : 0 ≤ k) (hk : k ≤ 1010) (hrl : rs.length ≤ 1010) (htl : tl rs ≤ 100100) (hgg : gg ≤ 100)
    (fin : ∀ s' J m' hc' rv' rs' k' t' f', Le I J → St w O J (lawSt L H R T K m' hc' rv' k' t' (f' :: r)) s' → LV m' H R T K wd tw mv tm → HandC J hc' → StrsAre rv'.toList rs' → rs' = rowsF wd (f' :: r) → AllOk w J wd k' rs'.length (gg + 1) (f' :: r) →
      k ≤ k' → k' ≤ k + 8 → rs'.length ≤ rs.length + 8 → tl rs' ≤ tl rs + 300 → f'.vals.size ≠ 0 → Q .next s') :
    wpAny (model PG w) A (execs (ifE ifD) (eL L a cd)) Q E s := by
  have hbl2 : wd * r.length ≤ 4 * 3 := Nat.mul_le_mul hw hlen
  have hbl3 : (bl (wd * r.length)).length = wd * r.length := bl_len _
  have e3 : ("f()" : Str).length = 3 := by decide +kernel
  have hrz := StrsAre.len hr
  rw [Array.length_toList] at hrz
  change wpAny _ A (execs (_ :: _ :: _ :: _ :: _ :: _ :: []) (eL L a cd)) _ _ _
  refine wpAny_execs_cons (rowA S hv.rows hb hr (by (clear ha5 hlen hw hk0 hk htl hgg hbl2 hbl3 e3; (first | lia | omega))) (by (clear ha5 hlen hw hk0 hk hrl htl hgg hrz; (first | lia | omega))) fun s₁ rv₃ hr₃ S => ?_)
  have zr₃ := StrsAre.len hr₃
  rw [Array.length_toList, List.length_append, List.length_singleton] at zr₃
  have z4 : tl (rs ++ [bl (wd * r.length) ++ ("f()" : Str)]) ≤ tl rs + 15 := by rw [tl_app, tl_one, Str.length_append']; (clear ha5 hlen hw hk0 hk hrl htl hgg hrz zr₃; (first | lia | omega))
  refine wpAny_execs_cons (wpAny_Assign_Name (signL (n := n + 17) hA S hv (by (clear ha5 hlen hw hk0 hk htl hgg hbl2 hbl3 e3 z4; (first | lia | omega))) fun s₂ J₁ fi t₁ l₁ hfi S => ?_))
  refine sL S eLok (by kernel_rfl) fun s₃ S => ?_
  have hv₁ := hv.upd (x := "first") (v := fi) (by decide +kernel)
  have ham₁ : upd m "first" fi "ahead" = some (.ref al) := (upd_ne (by decide +kernel)).trans ham
  have hb₁ : upd m "first" fi "blanks" = some (.str (bl (wd * r.length)) tb) := (upd_ne (by decide +kernel)).trans hb
  have hf₁ : upd m "first" fi "first" = some fi := upd_eq
  generalize upd m "first" fi = m₁ at *
  refine wpAny_execs_cons (wpAny_Assign_Name (signL (n := n + 17) hA S hv₁ (by (clear ha5 hlen hw hk0 hk htl hgg hbl2 hbl3 e3 z4; (first | lia | omega))) fun s₄ J₂ la t₂ l₂ hla S => ?_))
  refine sL S eLok (by kernel_rfl) fun s₅ S => ?_
  have hv₂ := hv₁.upd (x := "last") (v := la) (by decide +kernel)
  have ham₂ : upd m₁ "last" la "ahead" = some (.ref al) := (upd_ne (by decide +kernel)).trans ham₁
  have hb₂ : upd m₁ "last" la "blanks" = some (.str (bl (wd * r.length)) tb) := (upd_ne (by decide +kernel)).trans hb₁
  have hf₂ : upd m₁ "last" la "first" = some fi := (upd_ne (by decide +kernel)).trans hf₁
  have hl₂ : upd m₁ "last" la "last" = some la := upd_eq
  generalize upd m₁ "last" la = m₂ at *
  refine wpAny_execs_cons (wpAny_Assign_Name (behL (n := n + 10) hA S hv₂ hb₂ ham₂ ((hh.le l₁).le l₂) hr₃ ((ha1.le l₁).le l₂) ((ha2.le l₁).le l₂) (by (clear ha5 hlen hw hrl htl hgg hbl2 hbl3 e3 hrz zr₃ z4; (first | lia | omega))) (by (clear ha5 hlen hw hrl htl hgg hbl2 hbl3 e3 hrz zr₃ z4; (first | lia | omega))) (by simp) (by (clear ha5 hlen hw hk0 hk hrl hgg e3 hrz zr₃; (first | lia | omega))) (by rw [List.length_append, List.length_singleton]; (clear ha5 hlen hw hk0 hk htl hgg hbl2 hbl3 e3 z4; (first | lia | omega))) (by (clear hlen hw hk0 hk hrl htl hgg hbl2 hbl3 e3 hrz zr₃ z4; (first | lia | omega)))
    fun s₆ J₃ l5 lv5 rv₅ t₅ hc₅ m1 m2 fl l₃ hh₅ hm1 hm2 hll₅ hcs₅ hr₅ S => ?_))
  refine sL S eLok (by kernel_rfl) fun s₇ S => ?_
  have hv₃ := hv₂.upd (x := "laid") (v := .ref l5) (by decide +kernel)
  have hf₃ : upd m₂ "laid" (.ref l5) "first" = some fi := (upd_ne (by decide +kernel)).trans hf₂
  have hl₃ : upd m₂ "laid" (.ref l5) "last" = some la := (upd_ne (by decide +kernel)).trans hl₂
  have hla₃ : upd m₂ "laid" (.ref l5) "laid" = some (.ref l5) := upd_eq
  generalize upd m₂ "laid" (.ref l5) = m₃ at *
  obtain ⟨⟨g1, gah, g3, g4, g5⟩, hokr⟩ := hok
  refine wpAny_execs_cons (appendO (O := O) ?_)
  refine topI S hv₃.stack (by (clear ha5 hw hk0 hk hrl htl hgg hbl2 hbl3 e3 hrz zr₃ z4 hm1 hm2 gah g5; (first | lia | omega))) fun s₈ S => ?_
  obtain ⟨nl, hlo⟩ := S.lo (i := 6) rfl
  refine ⟨f.s, f.vals, nl, rfl, hlo, ?_⟩
  refine callK (v := .ref 336) S eLok (by kernel_rfl) (gl9 _) (by kernel_rfl) (by decide +kernel) (by rfl) ?_
  refine wpAny_items_cons ?_
  refine callF (v := .ref 258) S eLok (by kernel_rfl) (gl7 _) (by kernel_rfl) (by decide +kernel) ?_
  refine wpAny_items_cons (cS S fun s₉ t₉ S => ?_)
  refine wpAny_items_nil ?_
  refine ⟨S.kin, wpAny_call (newName (n := n + 13) hA S (.inl rfl) (of := none) rfl (ol := none) rfl Kw.no fun s₁₀ J₄ nx nnm nc nf nl' l₄ hnc hnf hnl HN S => ?_)⟩
  have hnf : nf = .none := hnf
  have hnl : nl' = .none := hnl
  subst hnf; subst hnl
  refine wpAny_items_cons ?_
  refine listD S fun s₁₁ el S => ?_
  obtain ⟨J₅, S, l₅, hel⟩ := (St.swap S).fixL
  refine wpAny_items_nil ?_
  refine wpAny_evalAll_cons (wpAny_bind ?_)
  refine nL S eLok (by kernel_rfl) hla₃ ?_ (by decide +kernel)
  refine wpAny_bind (wpAny_standAt (wpAny_pure (wpAny_evalAll_cons (wpAny_bind ?_))))
  refine nL S eLok (by kernel_rfl) hf₃ ?_ (by decide +kernel)
  refine wpAny_bind (wpAny_standAt (wpAny_pure (wpAny_evalAll_cons (wpAny_bind ?_))))
  refine nL S eLok (by kernel_rfl) hl₃ ?_ (by decide +kernel)
  refine wpAny_bind (wpAny_standAt (wpAny_pure (wpAny_evalAll_nil ?_)))
  have hlae : ITok J₅ la (k + 1 + 1) (rv₃.size : Int) := ((hla.le l₃).le l₄).le l₅
  have hfie : ITok J₅ fi (k + 1) (rv₃.size : Int) := (((hfi.le l₂).le l₃).le l₄).le l₅
  refine ⟨S.kin, wpAny_call (newCall (n := n + 13) hA S (.inr ⟨l5, rfl⟩) (of := some (k + 1, (rv₃.size : Int))) hfie (ol := some (k + 1 + 1, (rv₃.size : Int))) hlae (Kw.all _ _ _) fun s₁₂ J₆ dx dnm dc df dl l₆ hdc hdf hdl HD S => ?_)⟩
  have hmix := mixB (A := acs) (rs := rs ++ [bl (wd * r.length) ++ ("f()" : Str)]) (rs2 := remR (bl (wd * r.length)) true m1 (rs ++ [bl (wd * r.length) ++ ("f()" : Str)]) (k + 1 + 1)) (k := k + 1 + 1) (k2 := k + 1 + 1 + m1) (m1 := m1) (m2 := m2) (b := bl (wd * r.length)) fl (fun c hc => (ha4 c hc).2) ha5 hm1 hm2 (by (clear ha5 hlen hw hrl htl hgg hbl2 hbl3 e3 hrz zr₃ z4 hm1 hm2 gah g5; (first | lia | omega))) (by (clear ha5 hlen hw hrl htl hgg hbl2 hbl3 e3 hrz zr₃ z4 hm1 hm2 gah g5; (first | lia | omega))) (by (clear ha5 hlen hw hrl htl hgg hbl2 hbl3 e3 hrz zr₃ z4 hm2 gah g5; (first | lia | omega))) (by (clear ha5 hlen hw hrl htl hgg hbl2 hbl3 e3 hrz zr₃ z4 hm2 gah g5; (first | lia | omega)))
  have hP : NodeP w J₆ 336 dx (callM dnm dc df dl (.ref nx) (.ref el) (.int 0 617)) (acs.map (·.1)) (txs (k + 1 + 1) m1) (txs (k + 1 + 1 + m1) m2) :=
    .call HD hdc hdf hdl (((hll₅.le l₄).le l₅).le l₆) (((hcs₅.le l₄).le l₅).le l₆) (DecoOk.behind fl (fun c hc => by have := (ha4 c hc).1; (clear ha5 hlen hw hk0 hk hrl htl hgg hbl2 hbl3 e3 hrz zr₃ z4 hm1 hm2 gah g5 hmix; (first | lia | omega))) (by (clear ha5 hlen hw hk0 hk hrl htl hgg hbl2 hbl3 e3 hrz zr₃ z4 hm1 hm2 gah g5 hmix; (first | lia | omega))) (by (clear ha5 hlen hw hrl htl hgg hbl2 hbl3 e3 hrz zr₃ z4 hm1 hm2 gah g5 hmix; (first | lia | omega))) (by (clear ha5 hlen hw hrl htl hgg hbl2 hbl3 e3 hrz zr₃ z4 gah g5 hmix; (first | lia | omega))) (by simp) (by rw [zr₃, List.length_append, List.length_singleton])) hmix.1 hmix.2
  have hlef : Le I J₆ := ((((l₁.trans l₂).trans l₃).trans l₄).trans l₅).trans l₆
  have hcall := CallH.make hP (hel.le l₆) ((HN.le l₅).le l₆) ((hnc.le l₅).le l₆)
  rw [ha3] at hcall
  have hnode := NodeH.call (wd := wd) hcall (3 - r.length)
  refine ⟨J₆, _, 6, f.vals, S, rfl, by (clear ha5 hlen hw hk0 hk hrl htl hbl2 hbl3 e3 hrz zr₃ z4 hm1 hm2 gah hmix; (first | lia | omega)), fun s₁₃ S => ?_⟩
  have S : St w O J₆ ((L, .ns m₃) :: (H, hc₅) :: (R, .ls rv₅) :: (T, .ls #[.int (k + 1 + 1 + m1 + m2) t₅]) :: (K, .ls (kArr (f :: r))) :: (f.a, .ls #[.ref f.s, f.first, .ref f.ah, f.last]) :: (f.s, .ls (f.vals.push (.ref dx))) :: (frs r ++ [(373, .tb)])) s₁₃ := S
  refine wpAny_execs_cons (wpAny_Assign_Subscript ?_)
  refine nL S eLok (by kernel_rfl) hl₃ ?_ (by decide +kernel)
  refine topE S hv₃.stack (by (clear ha5 hw hk0 hk hrl htl hgg hbl2 hbl3 e3 hrz zr₃ z4 hm1 hm2 gah g5 hmix; (first | lia | omega))) fun s₁₄ S => ?_
  refine cI S fun s₁₅ t₁₅ S => ?_
  refine setI (i := 5) S rfl (by decide) (by show (3 : Int) < 4; decide) (by show 4 < 1000000; decide) fun s₁₆ S => ?_
  refine wpAny_execs_nil ?_
  have q1 : remR (bl (wd * r.length)) false m2 (remR (bl (wd * r.length)) true m1 (rs ++ [bl (wd * r.length) ++ ("f()" : Str)]) (k + 1 + 1)) (k + 1 + 1 + m1) =
      rowsF wd ({ f with vals := f.vals.push (.ref dx), lss := f.lss ++ [as ++ (([] ++ [lastB "f()" (txs (k + 1 + 1) m1)]) ++ txs (k + 1 + 1 + m1) m2)], last := la } :: r) := by
    rw [rowsF_add, remR_near, remR_far, lastB_app, hrs]
    simp only [List.map_append, List.map_cons, List.map_nil, List.append_assoc, List.nil_append]
  have hB := bndB (b := bl (wd * r.length)) (q := rs ++ [bl (wd * r.length) ++ ("f()" : Str)]) (k := k + 1 + 1) (m1 := m1) (m2 := m2) (by (clear ha5 hlen hw hk0 hk hrl htl hgg e3 hrz zr₃ z4 hm1 hm2 gah g5 hmix; (first | lia | omega))) hm1 hm2 (by (clear ha5 hlen hw hrl htl hgg hbl2 hbl3 e3 hrz zr₃ z4 hm1 hm2 gah g5 hmix; (first | lia | omega))) (by (clear ha5 hlen hw hrl htl hgg hbl2 hbl3 e3 hrz zr₃ z4 hm1 hm2 gah g5 hmix; (first | lia | omega))) (by simp)
  generalize remR (bl (wd * r.length)) false m2 (remR (bl (wd * r.length)) true m1 (rs ++ [bl (wd * r.length) ++ ("f()" : Str)]) (k + 1 + 1)) (k + 1 + 1 + m1) = rs₅ at hr₅ q1 hB
  rw [List.length_append, List.length_singleton] at hB
  obtain ⟨y1, y2, y3⟩ := hB
  refine fin _ J₆ m₃ hc₅ rv₅ _ (k + 1 + 1 + m1 + m2) t₅ { f with vals := f.vals.push (.ref dx), lss := f.lss ++ [as ++ (([] ++ [lastB "f()" (txs (k + 1 + 1) m1)]) ++ txs (k + 1 + 1 + m1) m2)], last := la } hlef S hv₃ (((hh₅.le l₄).le l₅).le l₆) hr₅ q1 ⟨⟨?_, ?_, ?_, ?_, ?_⟩, ?_⟩ (by (clear ha5 hlen hw hk0 hk hrl htl hgg hbl2 hbl3 e3 hrz zr₃ z4 gah g5 hmix y1 y2 y3; (first | lia | omega))) (by (clear ha5 hlen hw hk0 hk hrl htl hgg hbl2 hbl3 e3 hrz zr₃ z4 gah g5 hmix y1 y2 y3; (first | lia | omega))) (by (clear ha5 hlen hw hk0 hk hrl htl hgg hbl2 hbl3 e3 z4 hm1 hm2 gah g5 hmix y3; (first | lia | omega))) (by (clear ha5 hlen hw hk0 hk hrl htl hgg hbl2 hbl3 e3 hrz zr₃ hm1 hm2 gah g5 hmix y1 y2; (first | lia | omega))) ?_
  · rw [Array.toList_push]
    exact (g1.mono fun _ _ z => NodeH.le hlef z).push hnode
  · obtain ⟨bv, bcs, b1, b2, b3, b4, b5⟩ := gah
    exact ⟨bv, bcs, b1.le hlef, b2.le hlef, b3, fun c hc => by have := b4 c hc; exact ⟨by (clear ha5 hlen hw hk0 hk hrl htl hgg hbl2 hbl3 e3 hrz zr₃ z4 g5 hmix y1 y2 y3 b5; (first | lia | omega)), this.2⟩, b5⟩
  · intro q; obtain ⟨fi, fl, z⟩ := g3 q; exact ⟨fi, fl, z.le hlef⟩
  · intro _; exact ⟨_, _, hlae.le l₆, by (clear ha5 hlen hw hk0 hk hrl htl hgg hbl2 hbl3 e3 hrz zr₃ z4 gah g5 hmix y1 y2 y3; (first | lia | omega)), by (clear ha5 hlen hw hk0 hk hrl htl hgg hbl2 hbl3 e3 z4 hm1 hm2 gah g5 hmix y3; (first | lia | omega))⟩
  · show (f.vals.push (.ref dx)).size ≤ gg + 1
    rw [Array.size_push]; (clear ha5 hlen hw hk0 hk hrl htl hgg hbl2 hbl3 e3 hrz zr₃ z4 hm1 hm2 gah hmix y1 y2 y3; (first | lia | omega))
  · exact hokr.up hlef (by (clear ha5 hlen hw hk0 hk hrl htl hgg hbl2 hbl3 e3 hrz zr₃ z4 gah g5 hmix y1 y2 y3; (first | lia | omega))) (by (clear ha5 hlen hw hk0 hk hrl htl hgg hbl2 hbl3 e3 z4 hm1 hm2 gah g5 hmix y3; (first | lia | omega))) (by (clear ha5 hlen hw hk0 hk hrl htl hgg hbl2 hbl3 e3 hrz zr₃ z4 hm1 hm2 gah g5 hmix y1 y2 y3; (first | lia | omega)))
  · show (f.vals.push (.ref dx)).size ≠ 0
    rw [Array.size_push]; (clear ha5 hlen hw hk0 hk hrl htl hgg hbl2 hbl3 e3 hrz zr₃ z4 hm1 hm2 gah g5 hmix y1 y2 y3; (first | lia | omega))
end

end
section
section
variable {w : World} {O : OsState} {I : Im} {A : Around} {E : Value → Shared → Prop} {s : Shared} {L a H R T K al : Addr} {cd : Value} {m : Str → Option Value} {ms : Ms} {hc tc : Cel} {rv av : Array Value} {f g : Fr} {r fs : List Fr} {wd gg : Nat} {tw tm t tb td tv : Tok} {mv mvv k : Int} {n : Nat} {rs as : List Str} {acs : List Com}
theorem doX {Q : Flow → Shared → Prop} (hA : Ok A (n + 20)) (S : St w O I (lawSt L H R T K m hc rv k t (f :: r)) s) (hv : LV m H R T K wd tw mv tm) (hb : m "blanks" = some (.str (bl (wd * r.length)) tb)) (ham : m "ahead" = some (.ref al)) (ha1 : ILst I al av) (ha2 : IComs I av.toList acs) (ha3 : acs.map (·.1) = as) (ha4 : ∀ c ∈ acs, c.2.1 ≤ k ∧ Ln c.1 ∧ c.1.length ≤ 12) (ha5 : acs.length ≤ 2)
    (hh : HandC I hc) (hr : StrsAre rv.toList rs) (hrs : rs = rowsF wd (f :: r) ++ as.map (bl (wd * r.length) ++ ·)) (hlen : r.length ≤ 3) (hw : wd ≤ 4) (hok : AllOk w I wd k rs.length gg (f :: r)) (hk0 : 0 ≤ k) (hk : k ≤ 1010) (hrl : rs.length ≤ 1010) (htl : tl rs ≤ 100100) (hgg : gg ≤ 100)
    (fin : ∀ s' J m' hc' rv' rs' k' t' h, Le I J → St w O J (lawSt L H R T K m' hc' rv' k' t' (h :: f :: r)) s' → LV m' H R T K wd tw mv tm → HandC J hc' → StrsAre rv'.toList rs' → rs' = rowsF wd (h :: f :: r) → AllOk w J wd k' rs'.length (gg + 1) (h :: f :: r) →
      k ≤ k' → k' ≤ k + 8 → rs'.length ≤ rs.length + 8 → tl rs' ≤ tl rs + 300 → h.vals.size = 0 → Q .next s') :
    wpAny (model PG w) A (execs (ifB ifD) (eL L a cd)) Q E s := by
  have hbl2 : wd * r.length ≤ 4 * 3 := Nat.mul_le_mul hw hlen
  have hbl3 : (bl (wd * r.length)).length = wd * r.length := bl_len _
  have e3 : ("do" : Str).length = 2 := by decide +kernel
  have hrz := StrsAre.len hr
  rw [Array.length_toList] at hrz
  change wpAny _ A (execs (_ :: _ :: []) (eL L a cd)) _ _ _
  refine wpAny_execs_cons (rowA S hv.rows hb hr (by (clear ha5 hlen hw hk0 hk htl hgg hbl2 hbl3 e3; (first | lia | omega))) (by (clear ha5 hlen hw hk0 hk hrl htl hgg hrz; (first | lia | omega))) fun s₁ rv₃ hr₃ S => ?_)
  have zr₃ := StrsAre.len hr₃
  rw [Array.length_toList, List.length_append, List.length_singleton] at zr₃
  have z4 : tl (rs ++ [bl (wd * r.length) ++ ("do" : Str)]) ≤ tl rs + 15 := by rw [tl_app, tl_one, Str.length_append']; (clear ha5 hlen hw hk0 hk hrl htl hgg hrz zr₃; (first | lia | omega))
  refine wpAny_execs_cons (appendO (O := O) ?_)
  refine nL S eLok (by kernel_rfl) hv.stack ?_ (by decide +kernel)
  obtain ⟨nl, hlo⟩ := S.lo (i := 4) rfl
  refine ⟨K, kArr (f :: r), nl, rfl, hlo, ?_⟩
  refine listD' (O := O) (p := (0, .tb)) ?_
  refine wpAny_items_cons ?_
  refine listD S fun s₂ a0 S => ?_
  have S := S.perm (List.Perm.cons _ (List.perm_middle (l₁ := [_, _, _, _])).symm)
  have S : St w O I ((L, .ns m) :: (H, hc) :: (R, .ls rv₃) :: (T, .ls #[.int k t]) :: (K, .ls (kArr (f :: r))) :: (a0, .ls #[]) :: (frs (f :: r) ++ [(373, .tb)])) s₂ := S
  refine wpAny_items_cons ?_
  refine signL (n := n + 17) hA S hv (by (clear ha5 hlen hw hk0 hk htl hgg hbl2 hbl3 e3 z4; (first | lia | omega))) fun s₃ J₁ fi t₁ l₁ hfi S => ?_
  refine wpAny_items_cons ?_
  refine nL S eLok (by kernel_rfl) ham ?_ (by decide +kernel)
  refine wpAny_items_cons (cN (wpAny_items_nil ?_))
  refine ⟨by show 4 ≤ 1000; decide, J₁, _, _, S, fun s₄ fa S => ?_⟩
  refine ⟨J₁, _, 5, kArr (f :: r), S, rfl, by rw [kArr_size, List.length_cons]; (clear ha5 hw hk0 hk hrl htl hgg hbl2 hbl3 e3 hrz zr₃ z4; (first | lia | omega)), fun s₅ S => ?_⟩
  have S : St w O J₁ ((L, .ns m) :: (fa, .ls #[.ref a0, fi, .ref al, .none]) :: (H, hc) :: (R, .ls rv₃) :: (T, .ls #[.int (k + 1) t₁]) :: (K, .ls ((kArr (f :: r)).push (.ref fa))) :: (a0, .ls #[]) :: (frs (f :: r) ++ [(373, .tb)])) s₅ := S
  have S := S.perm (List.Perm.cons _ (List.perm_middle (l₁ := [_, _, _, _])).symm)
  have S : St w O J₁ ((L, .ns m) :: (H, hc) :: (R, .ls rv₃) :: (T, .ls #[.int (k + 1) t₁]) :: (K, .ls ((kArr (f :: r)).push (.ref fa))) :: (fa, .ls #[.ref a0, fi, .ref al, .none]) :: (a0, .ls #[]) :: (frs (f :: r) ++ [(373, .tb)])) s₅ := S
  refine wpAny_execs_nil ?_
  have ek : kArr ({ a := fa, s := a0, ah := al, vals := #[], first := fi, last := .none, lss := [], as := as } :: f :: r) = (kArr (f :: r)).push (.ref fa) := kArr_cons _ _
  have q1 : rs ++ [bl (wd * r.length) ++ ("do" : Str)] = rowsF wd ({ a := fa, s := a0, ah := al, vals := #[], first := fi, last := .none, lss := [], as := as } :: f :: r) := by
    show _ = rowsF wd (f :: r) ++ ((as ++ [("do" : Str)]).map (bl (wd * r.length) ++ ·) ++ ([] : List Str))
    rw [hrs, List.append_nil, List.map_append, List.map_singleton, List.append_assoc]
  refine fin _ J₁ m hc rv₃ _ (k + 1) t₁ { a := fa, s := a0, ah := al, vals := #[], first := fi, last := .none, lss := [], as := as } l₁ ?_ hv (hh.le l₁) hr₃ q1 ⟨⟨ListH.nil, ⟨av, acs, ha1.le l₁, ha2.le l₁, ha3, fun c hc => ?_, ha5⟩, fun _ => ⟨_, _, hfi⟩, fun q => absurd rfl q, Nat.zero_le _⟩, ?_⟩ (by (clear ha5 hlen hw hk0 hk hrl htl hgg hbl2 hbl3 e3 hrz zr₃ z4; (first | lia | omega))) (by (clear ha5 hlen hw hk0 hk hrl htl hgg hbl2 hbl3 e3 hrz zr₃ z4; (first | lia | omega))) ?_ (by (clear ha5 hlen hw hk0 hk hrl htl hgg hbl2 hbl3 e3 hrz zr₃; (first | lia | omega))) rfl
  · show St w O J₁ ((L, .ns m) :: (H, hc) :: (R, .ls rv₃) :: (T, .ls #[.int (k + 1) t₁]) :: (K, .ls (kArr _)) :: _) s₅
    rw [ek]; exact S
  · have := ha4 c hc; exact ⟨by (clear ha5 hlen hw hk0 hk hrl htl hgg hbl2 hbl3 e3 hrz zr₃ z4; (first | lia | omega)), this.2⟩
  · exact AllOk.up l₁ (by (clear ha5 hlen hw hk0 hk hrl htl hgg hbl2 hbl3 e3 hrz zr₃ z4; (first | lia | omega))) (by rw [List.length_append, List.length_singleton]; (clear ha5 hlen hw hk0 hk hrl htl hgg hbl2 hbl3 e3 hrz zr₃ z4; (first | lia | omega))) (by (clear ha5 hlen hw hk0 hk hrl htl hgg hbl2 hbl3 e3 hrz zr₃ z4; (first | lia | omega))) hok
  · rw [List.length_append, List.length_singleton]; (clear ha5 hlen hw hk0 hk hrl htl hgg hbl2 hbl3 e3 hrz zr₃ z4; (first | lia | omega))
theorem restL {Q : Flow → Shared → Prop} (hA : Ok A (n + 20)) (S : St w O I (lawSt L H R T K m hc rv k t (f :: r)) s) (hv : LV m H R T K wd tw mv tm) (hd : m "depth" = some (.int (((f :: r).length : Int) - 1) td)) (hb : m "blanks" = some (.str (bl (wd * ((f :: r).length - 1))) tb)) (hm : m "move" = some (.int mvv tv))
    (hh : HandC I hc) (hr : StrsAre rv.toList rs) (hrs : rs = rowsF wd (f :: r)) (hlen : r.length ≤ 3) (hw : wd ≤ 4) (hok : AllOk w I wd k rs.length gg (f :: r)) (hk0 : 0 ≤ k) (hk : k ≤ 1000) (hrl : rs.length ≤ 1000) (htl : tl rs ≤ 100000) (hgg : gg ≤ 100)
    (finC : ∀ s' J m' hc' rv' rs' k' t' f', Le I J → St w O J (lawSt L H R T K m' hc' rv' k' t' (f' :: r)) s' → LV m' H R T K wd tw mv tm → HandC J hc' → StrsAre rv'.toList rs' → rs' = rowsF wd (f' :: r) → AllOk w J wd k' rs'.length (gg + 1) (f' :: r) →
      k ≤ k' → k' ≤ k + 10 → rs'.length ≤ rs.length + 10 → tl rs' ≤ tl rs + 400 → f'.vals.size ≠ 0 → Q .next s')
    (finD : mvv = 2 → r.length < 3 → ∀ s' J m' hc' rv' rs' k' t' h, Le I J → St w O J (lawSt L H R T K m' hc' rv' k' t' (h :: f :: r)) s' → LV m' H R T K wd tw mv tm → HandC J hc' → StrsAre rv'.toList rs' → rs' = rowsF wd (h :: f :: r) → AllOk w J wd k' rs'.length (gg + 1) (h :: f :: r) →
      k ≤ k' → k' ≤ k + 10 → rs'.length ≤ rs.length + 10 → tl rs' ≤ tl rs + 400 → h.vals.size = 0 → Q .next s') :
    wpAny (model PG w) A (execs (whB.drop 5) (eL L a cd)) Q E s := by
  have hrl' : (f :: r).length - 1 = r.length := rfl
  rw [hrl'] at hb
  have hbl2 : wd * r.length ≤ 4 * 3 := Nat.mul_le_mul hw hlen
  have hbl3 : (bl (wd * r.length)).length = wd * r.length := bl_len _
  change wpAny _ A (execs (_ :: ifD :: []) (eL L a cd)) _ _ _
  refine wpAny_execs_cons (wpAny_Assign_Name (remL (n := n + 10) hA S hv hb hh hr hk0 (by (clear hlen hw hrl htl hgg hrl' hbl2 hbl3; (first | lia | omega))) (by (clear hlen hw hk0 hk hrl hgg hrl'; (first | lia | omega))) (by (clear hlen hw hk0 hk htl hgg hrl' hbl2 hbl3; (first | lia | omega))) fun s₁ J₁ al av rv₁ t₁ hc₁ mm l₁ hmm hal hacs hr₁ hh₁ S => ?_))
  refine sL S eLok (by kernel_rfl) fun s₂ S => ?_
  have hv₁ := hv.upd (x := "ahead") (v := .ref al) (by decide +kernel)
  have hd₁ : upd m "ahead" (.ref al) "depth" = some (.int (((f :: r).length : Int) - 1) td) := (upd_ne (by decide +kernel)).trans hd
  have hb₁ : upd m "ahead" (.ref al) "blanks" = some (.str (bl (wd * r.length)) tb) := (upd_ne (by decide +kernel)).trans hb
  have hm₁ : upd m "ahead" (.ref al) "move" = some (.int mvv tv) := (upd_ne (by decide +kernel)).trans hm
  have ha₁ : upd m "ahead" (.ref al) "ahead" = some (.ref al) := upd_eq
  generalize upd m "ahead" (.ref al) = m₁ at *
  obtain ⟨z5, z1, z2⟩ := bndF (b := bl (wd * r.length)) (rs := rs) (k := k) (mm := mm) (by (clear hlen hw hk0 hk hrl htl hgg hrl' hmm; (first | lia | omega))) hmm hk0 (by (clear hlen hw hrl htl hgg hrl' hbl2 hbl3 hmm; (first | lia | omega)))
  have q1 : remR (bl (wd * r.length)) false mm rs k = rowsF wd (f :: r) ++ (txs k mm).map (bl (wd * r.length) ++ ·) := by rw [remR_far, hrs]
  have hok₁ : AllOk w J₁ wd (k + mm) (remR (bl (wd * r.length)) false mm rs k).length gg (f :: r) := AllOk.up l₁ (by (clear hlen hw hk0 hk hrl htl hgg hrl' hbl2 hbl3 z5 z1 z2; (first | lia | omega))) (by (clear hlen hw hk0 hk hrl htl hgg hrl' hbl2 hbl3 hmm z2; (first | lia | omega))) (Nat.le_refl _) hok
  have hcs4 : ∀ c ∈ remC (bl (wd * r.length)) false mm rs k, c.2.1 ≤ k + mm ∧ Ln c.1 ∧ c.1.length ≤ 12 := fun c hc => by have := remC_idx hk0 (by (clear hlen hw hrl htl hgg hrl' hbl2 hbl3 z5 z1 z2; (first | lia | omega))) c hc; exact ⟨this.2.1, this.2.2⟩
  have hcs5 : (remC (bl (wd * r.length)) false mm rs k).length ≤ 2 := by rw [remC_len]; (clear hlen hw hk0 hk hrl htl hgg hrl' hbl2 hbl3 z5 z1 z2; (first | lia | omega))
  generalize hrs₁ : remR (bl (wd * r.length)) false mm rs k = rs₁ at *
  have callCase : ∀ s', St w O J₁ (lawSt L H R T K m₁ hc₁ rv₁ (k + mm) t₁ (f :: r)) s' → wpAny (model PG w) A (execs (ifE ifD) (eL L a cd)) (fun fl s'' => match fl with | .next => wpAny (model PG w) A (execs [] (eL L a cd)) Q E s'' | fl => Q fl s'') E s' := by
    intro s' S
    refine callX (n := n) (as := txs k mm) hA S hv₁ hb₁ ha₁ hal hacs remC_txt hcs4 hcs5 hh₁ hr₁ q1 hlen hw hok₁ (by (clear hlen hw hrl htl hgg hrl' hbl2 hbl3 hcs5 z5 z1 z2; (first | lia | omega))) (by (clear hlen hw hrl htl hgg hrl' hbl2 hbl3 hcs5 z5 z1 z2; (first | lia | omega))) (by (clear hlen hw hk0 hk htl hgg hrl' hbl2 hbl3 hmm hcs5 z2; (first | lia | omega))) (by (clear hlen hw hk0 hk hrl hgg hrl' hbl2 hbl3 hmm hcs5 z5 z1; (first | lia | omega))) hgg fun s' J m' hc' rv' rs' k' t' f' lJ S hv' hh' hr' hrs' hok' h1 h2 h3 h4 h5 => ?_
    exact wpAny_execs_nil (finC s' J m' hc' rv' rs' k' t' f' (l₁.trans lJ) S hv' hh' hr' hrs' hok' (by (clear hlen hw hk0 hk hrl htl hgg hrl' hbl2 hbl3 hcs5 z5 z1 z2 h3 h4 h5; (first | lia | omega))) (by (clear hlen hw hk0 hk hrl htl hgg hrl' hbl2 hbl3 hcs5 z5 z1 z2 h3 h4 h5; (first | lia | omega))) (by (clear hlen hw hk0 hk hrl htl hgg hrl' hbl2 hbl3 hmm hcs5 z2 h1 h2 h4 h5; (first | lia | omega))) (by (clear hlen hw hk0 hk hrl htl hgg hrl' hbl2 hbl3 hmm hcs5 z5 z1 h1 h2 h3 h5; (first | lia | omega))) h5)
  refine wpAny_execs_cons ?_
  change wpAny _ _ (exec (.If _ (ifB ifD) (ifE ifD) _) _) _ _ _
  refine wpAny_If ?_
  change wpAny _ _ (isTrue (.BoolOp _ (_ :: _ :: []) _) _ _) _ _ _
  refine wpAny_isTrue_BoolOp (wpAny_allTrue_And_cons (wpAny_isTrue_Compare1 ?_))
  refine nL S eLok (by kernel_rfl) hm₁ ?_ (by decide +kernel)
  refine cI S fun s₃ t₃ S => ?_
  refine eq_int (wpAny_truthy_bool ?_)
  by_cases z : mvv = 2
  · rw [if_pos (beq_iff_eq.mpr z)]
    refine wpAny_allTrue_And_cons (wpAny_isTrue_Compare1 ?_)
    refine nL S eLok (by kernel_rfl) hd₁ ?_ (by decide +kernel)
    refine cI S fun s₄ t₄ S => ?_
    refine lt_int (wpAny_truthy_bool ?_)
    by_cases z2 : r.length < 3
    · rw [decide_eq_true (by rw [List.length_cons]; (clear hw hk0 hk hrl htl hgg hbl2 hbl3 hmm hcs5 z5 z1 z; (first | lia | omega))), if_pos rfl]
      refine wpAny_allTrue_And_nil ?_
      rw [if_pos rfl]
      refine doX (n := n) (as := txs k mm) hA S hv₁ hb₁ ha₁ hal hacs remC_txt hcs4 hcs5 hh₁ hr₁ q1 hlen hw hok₁ (by (clear hlen hw hrl htl hgg hrl' hbl2 hbl3 hcs5 z5 z1 z z2; (first | lia | omega))) (by (clear hlen hw hrl htl hgg hrl' hbl2 hbl3 hcs5 z5 z1 z z2; (first | lia | omega))) (by (clear hlen hw hk0 hk htl hgg hrl' hbl2 hbl3 hmm hcs5 z z2; (first | lia | omega))) (by (clear hlen hw hk0 hk hrl hgg hrl' hbl2 hbl3 hmm hcs5 z5 z1 z z2; (first | lia | omega))) hgg fun s' J m' hc' rv' rs' k' t' f' lJ S hv' hh' hr' hrs' hok' h1 h2 h3 h4 h5 => ?_
      exact wpAny_execs_nil (finD z z2 s' J m' hc' rv' rs' k' t' f' (l₁.trans lJ) S hv' hh' hr' hrs' hok' (by (clear hlen hw hk0 hk hrl htl hgg hrl' hbl2 hbl3 hcs5 z5 z1 z z2 h3 h4 h5; (first | lia | omega))) (by (clear hlen hw hk0 hk hrl htl hgg hrl' hbl2 hbl3 hcs5 z5 z1 z z2 h3 h4 h5; (first | lia | omega))) (by (clear hlen hw hk0 hk hrl htl hgg hrl' hbl2 hbl3 hmm hcs5 z z2 h1 h2 h4 h5; (first | lia | omega))) (by (clear hlen hw hk0 hk hrl htl hgg hrl' hbl2 hbl3 hmm hcs5 z5 z1 z z2 h1 h2 h3 h5; (first | lia | omega))) h5)
    · rw [decide_eq_false (by rw [List.length_cons]; (clear hw hk0 hk hrl htl hgg hbl2 hbl3 hmm hcs5 z5 z1 z; (first | lia | omega))), if_neg Bool.false_ne_true, if_neg Bool.false_ne_true]
      exact callCase _ S
  · rw [if_neg (fun q => z (beq_iff_eq.mp q)), if_neg Bool.false_ne_true]
    exact callCase _ S
end

end
section
noncomputable def whS : Stmt := (fnB (stA 28)).getD 6 (.Pass ⟨0, 0, 0, 0⟩)
section
variable {w : World} {O : OsState} {I : Im} {A : Around} {E : Value → Shared → Prop} {s : Shared} {L a H R T K al : Addr} {cd : Value} {m : Str → Option Value} {ms : Ms} {hc tc : Cel} {rv av : Array Value} {f g : Fr} {r fs : List Fr} {wd gg : Nat} {tw tm t tb td tv : Tok} {mv mvv k : Int} {n : Nat} {rs as : List Str} {acs : List Com}
structure LS (w : World) (O : OsState) (I₀ : Im) (L H R T K : Addr) (wd : Nat) (tw : Tok) (I : Im) (m : Str → Option Value) (hc : Cel) (rv : Array Value) (rs : List Str) (k : Int) (t : Tok) (f : Fr) (r : List Fr) (gg : Nat) (mv : Int) (tm : Tok) (s : Shared) : Prop where
  le : Le I₀ I
  st : St w O I (lawSt L H R T K m hc rv k t (f :: r)) s
  lv : LV m H R T K wd tw mv tm
  hh : HandC I hc
  hr : StrsAre rv.toList rs
  hrs : rs = rowsF wd (f :: r)
  len : r.length ≤ 3
  ok : AllOk w I wd k rs.length gg (f :: r)
  k0 : 0 ≤ k
  k1 : k ≤ ((10 * gg : Nat) : Int)
  rl : rs.length ≤ 10 * gg
  tl : tl rs ≤ 400 * gg
noncomputable def LInv (w : World) (O : OsState) (I₀ : Im) (L H R T K : Addr) (wd : Nat) (tw : Tok) (μ : Nat) (s : Shared) : Prop :=
  ∃ I m hc rv rs k t f r gg mv tm, LS w O I₀ L H R T K wd tw I m hc rv rs k t f r gg mv tm s ∧ gg + μ ≤ 40 ∧ μ = 4 * mv.toNat + 2 * r.length + (if f.vals.size = 0 then 1 else 0)
theorem turnL {I₀ : Im} {μ : Nat} (hA : Ok A (n + 21)) (hw : wd ≤ 4) (X : LS w O I₀ L H R T K wd tw I m hc rv rs k t f r gg mv tm s) (hg : gg + μ ≤ 40)
    (hμ : μ = 4 * mv.toNat + 2 * r.length + (if f.vals.size = 0 then 1 else 0)) (go : 0 < mv ∨ r ≠ []) :
    wpAny (model PG w) A (execs whB (eL L a cd)) (fun fl s' => (fl = .next ∨ fl = .cont) ∧ ∃ μ', μ' < μ ∧ LInv w O I₀ L H R T K wd tw μ' s') E s := by
  obtain ⟨hL, S, hv, hh, hr, hrs, hlen, hok, hk0, hk, hrl, htl⟩ := X
  have hgr : gg ≤ 39 := by
    rcases go with z | z
    · have : 1 ≤ mv.toNat := by (clear hw hg hμ hlen hk0 hk hrl htl; (first | lia | omega))
      (clear hw hk0 hk hrl htl z; (first | lia | omega))
    · have : 0 < r.length := List.length_pos_iff.mpr z
      (clear hw hk0 hk hrl htl z; (first | lia | omega))
  refine headL (n := n + 20) hA S hv hh hw (by rw [List.length_cons]; (clear hw hg hμ go hk0 hk hrl htl hgr; (first | lia | omega))) (by rw [List.length_cons]; (clear hw hg hμ go hk0 hk hrl htl hgr; (first | lia | omega))) fun s₁ m₁ hc₁ mvv tb td tv tm₁ S hv₁ hh₁ hd₁ hb₁ hm₁ hmv => ?_
  have S : St w O I (lawSt L H R T K m₁ hc₁ rv k t (f :: r)) s₁ := S
  have hfs : f.vals.size ≤ gg := hok.1.size
  have rest : ∀ s', St w O I (lawSt L H R T K m₁ hc₁ rv k t (f :: r)) s' → ¬ (mvv = 3 ∧ r ≠ [] ∧ f.vals.size ≠ 0) →
      wpAny (model PG w) A (execs (whB.drop 5) (eL L a cd)) (fun fl s' => (fl = .next ∨ fl = .cont) ∧ ∃ μ', μ' < μ ∧ LInv w O I₀ L H R T K wd tw μ' s') E s' := by
    intro s' S hn
    refine restL (n := n + 1) (gg := gg) hA S hv₁ hd₁ hb₁ hm₁ hh₁ hr hrs hlen hw hok hk0 (by (clear hw go hlen hk0 hrl htl hgr hmv hfs hn; (first | lia | omega))) (by (clear hw go hlen hk0 hk htl hgr hmv hfs hn; (first | lia | omega))) (by (clear hw go hlen hk0 hk hrl hgr hmv hfs hn; (first | lia | omega))) (by (clear hw hg hμ go hlen hk0 hk hrl htl hmv hfs hn; (first | lia | omega))) (fun s' J m' hc' rv' rs' k' t' f' lJ S hv' hh' hr' hrs' hok' h1 h2 h3 h4 h5 => ?_) (fun hq1 hq2 s' J m' hc' rv' rs' k' t' h lJ S hv' hh' hr' hrs' hok' h1 h2 h3 h4 h5 => ?_)
    · have hμ' : 4 * (mv - 1).toNat + 2 * r.length + (if f'.vals.size = 0 then 1 else 0) < μ := by
        rw [hμ, if_neg h5]
        by_cases z : 0 < mv
        · have : (mv - 1).toNat + 1 = mv.toNat := by (clear hw hg hμ hlen hk0 hk hrl htl hgr hfs h1 h2 h3 h4; (first | lia | omega))
          (clear hw hg hμ go hlen hk0 hk hrl htl hgr hmv hfs hn h1 h2 h3 h4 h5 z; (first | lia | omega))
        · have hr0 : r ≠ [] := go.resolve_left z
          have h3 : mvv = 3 := by rcases hmv with q | q <;> (clear hw hg hμ go hlen hk0 hk hrl htl hgr hfs hn h1 h2 h3 h4 h5 hr0; (first | lia | omega))
          have hz : f.vals.size = 0 := by
            by_cases q : f.vals.size = 0
            · exact q
            · exact absurd ⟨h3, hr0, q⟩ hn
          rw [if_pos hz]
          have e1 : (mv - 1).toNat = 0 := by (clear hw hg hμ go hlen hk0 hk hrl htl hgr hmv hfs hn h1 h2 h4 h5 hr0 h3 hz; (first | lia | omega))
          (clear hw hg hμ go hlen hk0 hk hrl htl hgr hmv hfs hn h1 h2 h4 h5 z hr0 h3 hz; (first | lia | omega))
      exact ⟨.inl rfl, _, hμ', J, m', hc', rv', rs', k', t', f', r, gg + 1, mv - 1, tm₁, ⟨hL.trans lJ, S, hv', hh', hr', hrs', hlen, hok', by (clear hw hg hμ go hlen hk hrl htl hgr hmv hfs hn h3 h4 h5 hμ'; (first | lia | omega)), by (clear hw hg hμ go hlen hk0 hrl htl hgr hmv hfs hn h3 h4 h5 hμ'; (first | lia | omega)), by (clear hw hg hμ go hlen hk0 hk htl hgr hmv hfs hn h1 h2 h4 h5 hμ'; (first | lia | omega)), by (clear hw hg hμ go hlen hk0 hk hrl hgr hmv hfs hn h1 h2 h3 h5 hμ'; (first | lia | omega))⟩, by (clear hw go hlen hk0 hk hrl htl hgr hmv hfs hn h1 h2 h3 h4 h5; (first | lia | omega)), rfl⟩
    · have z : 0 < mv := by
        rcases hmv with q | q
        · exact q.1
        · (clear hw hg hμ go hlen hk0 hk hrl htl hgr hfs hn hq2 h1 h2 h3 h4 h5; (first | lia | omega))
      have hμ' : 4 * (mv - 1).toNat + 2 * (f :: r).length + (if h.vals.size = 0 then 1 else 0) < μ := by
        rw [hμ, if_pos h5, List.length_cons]
        have : (mv - 1).toNat + 1 = mv.toNat := by (clear hw hg hμ hlen hk0 hk hrl htl hgr hfs hq2 h1 h2 h3 h4 h5; (first | lia | omega))
        (clear hw hg hμ go hlen hk0 hk hrl htl hgr hmv hfs hn hq1 hq2 h1 h2 h3 h4 h5 z; (first | lia | omega))
      exact ⟨.inl rfl, _, hμ', J, m', hc', rv', rs', k', t', h, f :: r, gg + 1, mv - 1, tm₁, ⟨hL.trans lJ, S, hv', hh', hr', hrs', by rw [List.length_cons]; (clear hw hg hμ go hk0 hk hrl htl hgr hmv hfs hn hq1 h1 h2 h3 h4 h5 z hμ'; (first | lia | omega)), hok', by (clear hw hg hμ go hlen hk hrl htl hgr hmv hfs hn hq1 hq2 h3 h4 h5 z hμ'; (first | lia | omega)), by (clear hw hg hμ go hlen hk0 hrl htl hgr hmv hfs hn hq1 hq2 h3 h4 h5 z hμ'; (first | lia | omega)), by (clear hw hg hμ go hlen hk0 hk htl hgr hmv hfs hn hq1 hq2 h1 h2 h4 h5 z hμ'; (first | lia | omega)), by (clear hw hg hμ go hlen hk0 hk hrl hgr hmv hfs hn hq1 hq2 h1 h2 h3 h5 z hμ'; (first | lia | omega))⟩, by (clear hw go hlen hk0 hk hrl htl hgr hmv hfs hn hq1 hq2 h1 h2 h3 h4 h5 z; (first | lia | omega)), rfl⟩
  change wpAny _ _ (execs (.If (ifT (whB.getD 4 (.Pass ⟨0, 0, 0, 0⟩))) ifP [] _ :: whB.drop 5) (eL L a cd)) _ _ _
  refine wpAny_execs_cons ?_
  refine wpAny_If ?_
  refine popTest S hv₁.stack (by (clear hw hg hμ go hk0 hk hrl htl hgr hmv hfs; (first | lia | omega))) (by (clear hw go hlen hk0 hk hrl htl hgr hmv; (first | lia | omega))) hd₁ hm₁ (fun s₂ S q1 q2 q3 => ?_) (fun s₂ S hn => ?_)
  · rw [if_pos rfl]
    cases r with
    | nil => exact absurd rfl q2
    | cons g r =>
      rw [List.length_cons] at hlen hμ
      refine popL (n := n + 1) (gg := gg) hA S hv₁ hd₁ hb₁ hh₁ hr hrs (by (clear hw hg hk0 hk hrl htl hgr hmv hfs q1 q3 hμ go q2; (first | lia | omega))) hw hok hk0 (by (clear hw hg hk0 hrl htl hmv hfs q1 q3 hμ go hlen q2; (first | lia | omega))) (by (clear hw hg hk0 hk htl hmv hfs q1 q3 hμ go hlen q2; (first | lia | omega))) (by (clear hw hg hk0 hk hrl hmv hfs q1 q3 hμ go hlen q2; (first | lia | omega))) (by (clear hw hg hk0 hk hrl htl hmv hfs q1 q3 hμ go hlen q2; (first | lia | omega))) q3 fun s' J m' hc' rv' rs' k' t' g' lJ S hv' hh' hr' hrs' hok' h1 h2 h3 h4 h5 => ?_
      have hμ' : 4 * (mv - 1).toNat + 2 * r.length + (if g'.vals.size = 0 then 1 else 0) < μ := by
        rw [hμ, if_neg h5]
        have : (mv - 1).toNat ≤ mv.toNat := by (clear hw hg hk0 hk hrl htl hgr hmv hfs q1 q3 hμ hlen q2 h1 h2 h3 h4; (first | lia | omega))
        (clear hw hg hk0 hk hrl htl hgr hmv hfs q1 q3 hμ go hlen q2 h1 h2 h3 h4 h5; (first | lia | omega))
      exact ⟨.inr rfl, _, hμ', J, m', hc', rv', rs', k', t', g', r, gg + 1, mv - 1, tm₁, ⟨hL.trans lJ, S, hv', hh', hr', hrs', by (clear hw hg hk0 hk hrl htl hgr hmv hfs q1 q3 hμ go q2 h1 h2 h3 h4 h5 hμ'; (first | lia | omega)), hok', by (clear hw hg hk hrl htl hgr hmv hfs q1 q3 hμ go hlen q2 h3 h4 h5 hμ'; (first | lia | omega)), by (clear hw hg hk0 hrl htl hgr hmv hfs q1 q3 hμ go hlen q2 h3 h4 h5 hμ'; (first | lia | omega)), by (clear hw hg hk0 hk htl hgr hmv hfs q1 q3 hμ go hlen q2 h1 h2 h4 h5 hμ'; (first | lia | omega)), by (clear hw hg hk0 hk hrl hgr hmv hfs q1 q3 hμ go hlen q2 h1 h2 h3 h5 hμ'; (first | lia | omega))⟩, by (clear hw hk0 hk hrl htl hgr hmv hfs q1 q3 go hlen q2 h1 h2 h3 h4 h5; (first | lia | omega)), rfl⟩
  · rw [if_neg Bool.false_ne_true]
    exact wpAny_execs_nil (rest _ S hn)
/-- the whole loop -/
theorem loopL {Q : Flow → Shared → Prop} {I₀ : Im} {μ : Nat} (hA : Ok A (n + 21)) (hw : wd ≤ 4) (h0 : LInv w O I₀ L H R T K wd tw μ s)
    (fin : ∀ s' I m hc rv rs k t f, Le I₀ I → St w O I (lawSt L H R T K m hc rv k t [f]) s' → m "rows" = some (.ref R) → m "stack" = some (.ref K) → m "width" = some (.int wd tw) → StrsAre rv.toList rs → rs = f.lss.flatten → ListH (NodeH w I wd 3) f.vals.toList f.lss → tl rs ≤ 20000 → rs.length ≤ 1000 → f.vals.size ≤ 1000 → Q .next s') :
    wpAny (model PG w) A (exec whS (eL L a cd)) Q E s := by
  change wpAny _ _ (exec (.While _ whB [] _) _) _ _ _
  refine wpAny_While ?_
  refine codeAny_whileLoop (fun μ s => LInv w O I₀ L H R T K wd tw μ s) ?_ μ h0
  rintro μ s ⟨I, m, hc, rv, rs, k, t, f, r, gg, mv, tm, ⟨hL, S, hv, hh, hr, hrs, hlen, hok, hk0, hk, hrl, htl⟩, hg, hμ⟩
  have hz := kArr_size (f :: r)
  rw [List.length_cons] at hz
  have yes : ∀ E' s', St w O I (lawSt L H R T K m hc rv k t (f :: r)) s' → (0 < mv ∨ r ≠ []) → wpAny (model PG w) A (execs whB (eL L a cd)) (fun fl s₃ => match fl with
            | .next | .cont => ∃ m, m < μ ∧ LInv w O I₀ L H R T K wd tw m s₃
            | .brk => Q .next s₃
            | .ret v => Q (.ret v) s₃) E' s' := by
    intro E' s' S go
    refine wpAny_mono (turnL (n := n) hA hw ⟨hL, S, hv, hh, hr, hrs, hlen, hok, hk0, hk, hrl, htl⟩ hg hμ go) (fun fl s₃ h => ?_) fun _ _ y => y
    obtain ⟨rfl | rfl, h⟩ := h <;> exact h
  refine wpAny_isTrue_BoolOp (wpAny_allTrue_Or_cons (wpAny_isTrue_Compare1 ?_))
  refine nL S eLok (by kernel_rfl) hv.moves ?_ (by decide +kernel)
  refine cI S fun s₁ t₁ S => ?_
  refine gt_int (wpAny_truthy_bool ?_)
  by_cases z : 0 < mv
  · rw [decide_eq_true z, if_pos rfl]
    exact yes _ _ S (.inl z)
  · rw [decide_eq_false z, if_neg Bool.false_ne_true]
    refine wpAny_allTrue_Or_cons (wpAny_isTrue_Compare1 ?_)
    refine callB (id := "len") S eLok (by kernel_rfl) (bl1 _) bv1 (by decide +kernel) (by decide +kernel) ?_
    refine wpAny_items_cons ?_
    refine nL S eLok (by kernel_rfl) hv.stack ?_ (by decide +kernel)
    refine wpAny_items_nil ?_
    refine lenL S (S.gl (i := 4) rfl) (by (clear hw hk0 hk hrl htl hg hμ z; (first | lia | omega))) fun s₃ t₃ S => ?_
    refine cI S fun s₄ t₄ S => ?_
    refine gt_int (wpAny_truthy_bool ?_)
    by_cases z2 : r = []
    · subst z2
      rw [decide_eq_false (by rw [hz]; show ¬ (1 : Int) < ((0 + 1 : Nat) : Int); (clear hw hk0 hk hrl htl hg z hlen hμ hz; (first | lia | omega))), if_neg Bool.false_ne_true]
      refine wpAny_allTrue_Or_nil ?_
      dsimp only
      refine wpAny_execs_nil ?_
      have e : rs = f.lss.flatten := by
        rw [hrs]
        show [] ++ ([] ++ f.lss.flatten.map (bl (wd * 0) ++ ·)) = _
        rw [Nat.mul_zero, map_bl0]; rfl
      exact fin _ I m hc rv rs k t f hL S hv.rows hv.stack hv.width hr e hok.1.nodes (by (clear hw hk0 hk hrl z hlen; (first | lia | omega))) (by (clear hw hk0 hk htl z hlen; (first | lia | omega))) (by have := hok.1.size; (clear hw hk0 hk hrl htl z hlen; (first | lia | omega)))
    · have : 0 < r.length := List.length_pos_iff.mpr z2
      rw [decide_eq_true (by rw [hz]; (clear hw hk0 hk hrl htl hg hμ z z2; (first | lia | omega))), if_pos rfl]
      exact yes _ _ S (.inr z2)
end

end
section
theorem slice40 (xs : Array Value) : (slicePick xs none (some 40) none).size ≤ 40 ∧ ∀ v ∈ slicePick xs none (some 40) none, v ∈ xs := by
  have e : slicePick xs none (some 40) none = ((xs.toList.drop 0).take (min 40 xs.size - 0)).toArray := by
    rw [← slicePick_run xs 0 (min 40 xs.size) (Nat.min_le_right _ _) (Nat.zero_le _)]
    have b : sliceBounds none (some 40) none xs.size = sliceBounds (some ((0 : Nat) : Int)) (some ((min 40 xs.size : Nat) : Int)) none xs.size := by
      simp only [sliceBounds, Option.getD_none]
      have h1 : ¬ ((((0 : Nat) : Int)) < 0) := by (first | lia | omega)
      have h2 : ¬ (((min 40 xs.size : Nat) : Int) < 0) := by (clear h1; (first | lia | omega))
      have h3 : ¬ ((40 : Int) < 0) := by (clear h1 h2; (first | lia | omega))
      simp only [h1, h2, h3, if_false, show (1 : Int) > 0 by decide, if_true]
      refine Prod.ext ?_ (Prod.ext ?_ rfl) <;> dsimp only <;> (clear h1 h3; (first | lia | omega))
    unfold slicePick
    rw [b]
  rw [e]
  refine ⟨by simp; (first | lia | omega), fun v hv => ?_⟩
  have hv : v ∈ (xs.toList.drop 0).take (min 40 xs.size - 0) := by simpa using hv
  have := List.mem_of_mem_take hv
  simpa using this
theorem TL.of {vs : List Value} {ts : List Str} (h : StrsAre vs ts) : ∃ l : List (Str × Tok), vs = strValues l ∧ l.map (·.1) = ts := by
  induction h with
  | nil => exact ⟨[], rfl, rfl⟩
  | cons y t _ ih =>
    obtain ⟨l, e1, e2⟩ := ih
    exact ⟨(y, t) :: l, by rw [e1]; rfl, by rw [← e2]; rfl⟩
section
variable {w : World} {O : OsState} {I : Im} {A : Around} {E : Value → Shared → Prop} {s : Shared} {L a H R T K al : Addr} {cd : Value} {m : Str → Option Value} {ms : Ms} {hc tc : Cel} {rv av : Array Value} {f g : Fr} {r fs : List Fr} {wd gg : Nat} {tw tm t tb td tv : Tok} {mv mvv k : Int} {n : Nat} {rs as : List Str} {acs : List Com}
/-- the last statement -/
theorem retL {Q : Flow → Shared → Prop} (hA : Ok A (n + 60)) (hw : wd ≤ 4) (S : St w O I (lawSt L H R T K m hc rv k t [f]) s) (m1 : m "rows" = some (.ref R)) (m2 : m "stack" = some (.ref K)) (m3 : m "width" = some (.int wd tw)) (hr : StrsAre rv.toList rs) (hrs : rs = f.lss.flatten) (hn : ListH (NodeH w I wd 3) f.vals.toList f.lss) (ht : tl rs ≤ 20000) (hl : rs.length ≤ 1000) (hz : f.vals.size ≤ 1000)
    (q : ∀ s' J ms', Le I J → (373, Cel.tb) ∈ ms' → St w O J ms' s' → Q (.ret (.bool true)) s') : wpAny (model PG w) A (execs ((fnB (stA 28)).drop 7) (eL L a cd)) Q E s := by
  change wpAny _ A (execs (_ :: []) (eL L a cd)) _ _ _
  refine wpAny_execs_cons (wpAny_Return_some ?_)
  refine wpAny_Compare1 ?_
  refine callF (v := .ref 835) S eLok (by kernel_rfl) (gl13 _) (by kernel_rfl) (by decide +kernel) ?_
  refine wpAny_items_cons ?_
  refine callF (v := .ref 224) S eLok (by kernel_rfl) (gl6 _) (by kernel_rfl) (by decide +kernel) ?_
  refine wpAny_items_cons ?_
  refine callF (v := .ref 203) S eLok (by kernel_rfl) (gl5 _) (by kernel_rfl) (by decide +kernel) ?_
  refine wpAny_items_cons ?_
  refine Subscript_ ?_
  refine Subscript_ ?_
  refine nL S eLok (by kernel_rfl) m2 ?_ (by decide +kernel)
  refine cI S fun s₁ t₁ S => ?_
  refine getI (S.gl (i := 4) rfl) (by decide) (by show 1 < 1000000; decide) rfl ?_
  refine cI S fun s₂ t₂ S => ?_
  refine getI (S.gl (i := 5) rfl) (by decide) (by show 4 < 1000000; decide) rfl ?_
  have S := St.front (l₁ := [_, _, _, _, _, _]) S
  obtain ⟨J₁, S, l₁, hL⟩ := S.fixL
  have S : St w O J₁ ([(L, .ns m), (H, hc), (R, .ls rv), (T, .ls #[.int k t]), (K, .ls (kArr [f])), (f.a, .ls #[.ref f.s, f.first, .ref f.ah, f.last]), (373, .tb)]) s₂ := S
  refine wpAny_items_nil ?_
  refine ⟨S.kin, wpAny_call (newBlock (n := n + 54) hA S (.inl rfl) (of := none) rfl (ol := none) rfl Kw.no fun s₃ J₂ bx bnm bc bf bl' l₂ hbc hbf hbl' HB S => ?_)⟩
  refine wpAny_items_nil ?_
  refine ⟨S.kin, wpAny_call (newChunk (n := n + 54) hA S (.inl rfl) (of := none) rfl (ol := none) rfl Kw.no fun s₄ J₃ cx cnm cc cf cl' l₃ hcc hcf hcl' HC S => ?_)⟩
  refine wpAny_items_cons ?_
  refine nL S eLok (by kernel_rfl) m3 ?_ (by decide +kernel)
  refine wpAny_items_nil ?_
  obtain ⟨ba, hbc1, hbc2⟩ := hbc
  obtain ⟨ca, hcc1, hcc2⟩ := hcc
  subst hbc1; subst hcc1
  have hle : Le I J₃ := (l₁.trans l₂).trans l₃
  have hwt : wt f.lss.flatten ≤ 40000 := by rw [← hrs]; unfold wt; (clear hw hz; (first | lia | omega))
  have S := St.front (l₁ := [_, _, _, _, _, _]) S
  refine ⟨S.kin, wpAny_call (source_spec (n := n + 57) (wd := wd) (out := Str.join ("\n" : Str) f.lss.flatten) hA S (fun sv dv => ?_) fun s₅ u S => ?_)⟩
  · exact (doRoot (d := 3) (by (clear ht hl hz hwt; (first | lia | omega))) HC upd_eq ((upd_ne (by decide +kernel)).trans nM1) hcc2 (HB.le l₃) upd_eq ((upd_ne (by decide +kernel)).trans nM1) (hbc2.le l₃) ((hL.le l₂).le l₃) (hn.mono fun _ _ z => NodeH.le hle z) (by (clear hw ht hl hz hwt; (first | lia | omega))) hwt).le (by (clear hw ht hl hz hwt; (first | lia | omega)))
  have S : St w O J₃ ([(373, .tb)] ++ ([(L, .ns m), (H, hc), (R, .ls rv), (T, .ls #[.int k t]), (K, .ls (kArr [f])), (f.a, .ls #[.ref f.s, f.first, .ref f.ah, f.last])] ++ [])) s₅ := S
  have S := St.mid [_] [_, _, _, _, _, _] S
  refine methodCall_KW ?_
  refine cS S fun s₆ t₆ S => ?_
  refine GM.join ?_
  refine strM ?_
  refine wpAny_items_cons ?_
  refine nL S eLok (by kernel_rfl) m1 ?_ (by decide +kernel)
  refine wpAny_items_nil ?_
  have hTL : TL rv rs := by
    obtain ⟨l, e1, e2⟩ := TL.of hr
    exact ⟨l, by rw [← e1], e2⟩
  have e1 : ("\n" : Str).length = 1 := by decide +kernel
  refine joinS (i := 2) S rfl hTL (PyProof.Rows.joinOk_of (by rw [e1]; have ht' : (rs.map (·.length)).sum ≤ 20000 := ht; (clear hw ht hz hwt e1; (first | lia | omega)))) fun s₇ t₇ S => ?_
  refine eq_str ?_
  rw [tj, hrs, show (Str.join ("\n" : Str) f.lss.flatten == Str.join ("\n" : Str) f.lss.flatten) = true from beq_self_eq_true _]
  exact q _ J₃ _ hle (List.mem_append_right _ (.head _)) S
end

end
section
section
variable {w : World} {O : OsState} {I : Im} {A : Around} {E : Value → Shared → Prop} {s : Shared} {L a H R T K al sl : Addr} {cd : Value} {m : Str → Option Value} {ms : Ms} {xs : Array Value} {n : Nat}
theorem lawBody {Q : Flow → Shared → Prop} (hA : Ok A (n + 60)) (S : St w O I [(L, .ns m), (373, .tb)] s) (hm : m "script" = some (.ref sl)) (hsl : s.heap.IsList sl xs) (hx : ∀ v ∈ xs, ∃ n t, v = Value.int n t) (hz : xs.size ≤ 63)
    (q : ∀ s' J ms', Le I J → (373, Cel.tb) ∈ ms' → St w O J ms' s' → Q (.ret (.bool true)) s') : wpAny (model PG w) A (execs (fnB (stA 28)) (eL L a cd)) Q E s := by
  change wpAny _ A (execs (_ :: _ :: _ :: _ :: _ :: _ :: whS :: (fnB (stA 28)).drop 7) (eL L a cd)) _ _ _
  refine wpAny_execs_cons (wpAny_Assign_Name ?_)
  refine listD' (O := O) (p := (0, .tb)) ?_
  refine wpAny_items_cons ?_
  refine wpAny_Subscript_list_slice ?_
  refine nL S eLok (by kernel_rfl) hm ?_ (by decide +kernel)
  rw [evalPart_none]
  refine wpAny_pure ?_
  rw [evalPart_some]
  refine wpAny_Constant_int ?_
  obtain ⟨h40, h40'⟩ := slice40 xs
  refine ⟨sl, xs, none, some 40, rfl, hsl, by rw [sizeLine_eq]; (clear h40; (first | lia | omega)), .none, .int _ _, ?_⟩
  have S1 : St w O I [(L, .ns m), (373, .tb)] { s with heap := s.heap.push { cls := .type "slice", data := .fields #[.none, .int 40 s.toks, .none] }, toks := s.toks + 1 } := S.ext (fun b o e => Heap.get?_push_of_some _ e) S.gens
  have S2 := S1.push (.ls (slicePick xs none (some 40) none)) (x := { cls := .type "list", data := .seq (slicePick xs none (some 40) none) }) ⟨0, IsL.new _ _⟩
  obtain ⟨I₁, S, l₁, hC⟩ := S2.fixL
  have eC : ({ s with heap := s.heap.push { cls := .type "slice", data := .fields #[.none, .int 40 s.toks, .none] }, toks := s.toks + 1 } : Shared).heap.objs.size = s.heap.objs.size + 1 := by
    show (s.heap.objs.push _).size = _
    rw [Array.size_push]
  rw [eC] at hC
  refine wpAny_items_cons (cI S fun s₁ t₁ S => ?_)
  refine wpAny_items_cons (cI S fun s₂ t₂ S => ?_)
  refine wpAny_items_nil ⟨by show 3 ≤ 1000; decide, I₁, _, _, S, fun s₃ H S => ?_⟩
  have hH : HandC I₁ (.ls (#[.ref (s.heap.objs.size + 1), .int 0 t₁, .int 7 t₂] : Array Value)) := ⟨_, _, 0, 7, t₁, t₂, rfl, hC, fun v hv => hx v (h40' v hv), h40, by decide, by decide, by decide⟩
  have S : St w O I₁ ((L, .ns m) :: (H, .ls (#[.ref (s.heap.objs.size + 1), .int 0 t₁, .int 7 t₂] : Array Value)) :: [(373, .tb)]) s₃ := S
  refine sL S eLok (by kernel_rfl) fun s₄ S => ?_
  have b1 : upd m "hand" (.ref H) "hand" = some (.ref H) := upd_eq
  generalize upd m "hand" (.ref H) = m₁ at *
  generalize (Cel.ls (#[.ref (s.heap.objs.size + 1), .int 0 t₁, .int 7 t₂] : Array Value)) = hc at *
  refine wpAny_execs_cons (wpAny_Assign_Name (drawL (n := n + 59) hA S b1 hH (by decide) (by decide) fun s₅ hc₁ wdi tw S hH₁ w0 w1 => ?_))
  obtain ⟨wd, rfl⟩ := Int.eq_ofNat_of_zero_le w0
  refine sL S eLok (by kernel_rfl) fun s₆ S => ?_
  have b2 : upd m₁ "width" (.int wd tw) "hand" = some (.ref H) := (upd_ne (by decide +kernel)).trans b1
  have c2 : upd m₁ "width" (.int wd tw) "width" = some (.int wd tw) := upd_eq
  generalize upd m₁ "width" (.int wd tw) = m₂ at *
  refine wpAny_execs_cons (wpAny_Assign_Name (wpAny_BinOp ?_))
  refine cI S fun s₇ t₇ S => ?_
  refine drawL (n := n + 59) hA S b2 hH₁ (by decide) (by decide) fun s₈ hc₂ mv0 tm0 S hH₂ v0 v1 => ?_
  refine oAdd S fun s₉ tm S => ?_
  refine sL S eLok (by kernel_rfl) fun s₁₀ S => ?_
  have b3 : upd m₂ "moves" (.int (3 + mv0) tm) "hand" = some (.ref H) := (upd_ne (by decide +kernel)).trans b2
  have c3 : upd m₂ "moves" (.int (3 + mv0) tm) "width" = some (.int wd tw) := (upd_ne (by decide +kernel)).trans c2
  have d3 : upd m₂ "moves" (.int (3 + mv0) tm) "moves" = some (.int (3 + mv0) tm) := upd_eq
  generalize upd m₂ "moves" (.int (3 + mv0) tm) = m₃ at *
  refine wpAny_execs_cons (wpAny_Assign_Name (listD S fun s₁₁ R S => ?_))
  have S : St w O I₁ ((L, .ns m₃) :: (R, .ls #[]) :: (H, hc₂) :: [(373, .tb)]) s₁₁ := S
  refine sL S eLok (by kernel_rfl) fun s₁₂ S => ?_
  have b4 : upd m₃ "rows" (.ref R) "hand" = some (.ref H) := (upd_ne (by decide +kernel)).trans b3
  have c4 : upd m₃ "rows" (.ref R) "width" = some (.int wd tw) := (upd_ne (by decide +kernel)).trans c3
  have d4 : upd m₃ "rows" (.ref R) "moves" = some (.int (3 + mv0) tm) := (upd_ne (by decide +kernel)).trans d3
  have e4 : upd m₃ "rows" (.ref R) "rows" = some (.ref R) := upd_eq
  generalize upd m₃ "rows" (.ref R) = m₄ at *
  refine wpAny_execs_cons (wpAny_Assign_Name ?_)
  refine listD' (O := O) (p := (0, .tb)) ?_
  refine wpAny_items_cons (cI S fun s₁₃ tk S => ?_)
  refine wpAny_items_nil ⟨by show 1 ≤ 1000; decide, I₁, _, _, S, fun s₁₄ T S => ?_⟩
  have S : St w O I₁ ((L, .ns m₄) :: (T, .ls #[.int 0 tk]) :: (R, .ls #[]) :: (H, hc₂) :: [(373, .tb)]) s₁₄ := S
  refine sL S eLok (by kernel_rfl) fun s₁₅ S => ?_
  have b5 : upd m₄ "seat" (.ref T) "hand" = some (.ref H) := (upd_ne (by decide +kernel)).trans b4
  have c5 : upd m₄ "seat" (.ref T) "width" = some (.int wd tw) := (upd_ne (by decide +kernel)).trans c4
  have d5 : upd m₄ "seat" (.ref T) "moves" = some (.int (3 + mv0) tm) := (upd_ne (by decide +kernel)).trans d4
  have e5 : upd m₄ "seat" (.ref T) "rows" = some (.ref R) := (upd_ne (by decide +kernel)).trans e4
  have f5 : upd m₄ "seat" (.ref T) "seat" = some (.ref T) := upd_eq
  generalize upd m₄ "seat" (.ref T) = m₅ at *
  refine wpAny_execs_cons (wpAny_Assign_Name ?_)
  refine listD' (O := O) (p := (0, .tb)) ?_
  refine wpAny_items_cons ?_
  refine listD' (O := O) (p := (0, .tb)) ?_
  refine wpAny_items_cons (listD S fun s₁₆ fs S => ?_)
  refine wpAny_items_cons (cN ?_)
  refine wpAny_items_cons (listD S fun s₁₇ fah S => ?_)
  obtain ⟨I₂, S, l₂, hah⟩ := (St.swap S).fixL
  refine wpAny_items_cons (cN (wpAny_items_nil ⟨by show 4 ≤ 1000; decide, I₂, _, _, S, fun s₁₈ fa S => ?_⟩))
  refine wpAny_items_nil ⟨by show 1 ≤ 1000; decide, I₂, _, _, S, fun s₁₉ K S => ?_⟩
  have S : St w O I₂ ((L, .ns m₅) :: (K, .ls #[.ref fa]) :: (fa, .ls #[.ref fs, .none, .ref fah, .none]) :: (fs, .ls #[]) :: (T, .ls #[.int 0 tk]) :: (R, .ls #[]) :: (H, hc₂) :: [(373, .tb)]) s₁₉ := S
  refine sL S eLok (by kernel_rfl) fun s₂₀ S => ?_
  have hv : LV (upd m₅ "stack" (.ref K)) H R T K wd tw (3 + mv0) tm := ⟨(upd_ne (by decide +kernel)).trans b5, (upd_ne (by decide +kernel)).trans e5, (upd_ne (by decide +kernel)).trans f5, upd_eq, (upd_ne (by decide +kernel)).trans c5, (upd_ne (by decide +kernel)).trans d5⟩
  generalize upd m₅ "stack" (.ref K) = m₆ at *
  have S : St w O I₂ ([(L, Cel.ns m₆), (K, Cel.ls #[.ref fa]), (fa, .ls #[.ref fs, .none, .ref fah, .none]), (fs, .ls #[]), (T, .ls #[.int 0 tk]), (R, .ls #[]), (H, hc₂), (373, .tb)] : Ms) s₂₀ := S
  have p1 : ([(L, Cel.ns m₆), (K, Cel.ls #[.ref fa]), (fa, .ls #[.ref fs, .none, .ref fah, .none]), (fs, .ls #[]), (T, .ls #[.int 0 tk]), (R, .ls #[]), (H, hc₂), (373, .tb)] : Ms).Perm
      (lawSt L H R T K m₆ hc₂ #[] 0 tk [{ a := fa, s := fs, ah := fah, vals := #[], first := .none, last := .none, lss := [], as := [] }]) := by
    refine List.Perm.cons _ ?_
    show ([(K, Cel.ls #[.ref fa]), (fa, .ls #[.ref fs, .none, .ref fah, .none]), (fs, .ls #[]), (T, .ls #[.int 0 tk]), (R, .ls #[]), (H, hc₂), (373, .tb)] : Ms).Perm [(H, hc₂), (R, .ls #[]), (T, .ls #[.int 0 tk]), (K, .ls #[.ref fa]), (fa, .ls #[.ref fs, .none, .ref fah, .none]), (fs, .ls #[]), (373, .tb)]
    refine (List.perm_middle (l₁ := [_, _, _, _, _])).trans (List.Perm.cons _ ?_)
    refine (List.perm_middle (l₁ := [_, _, _, _])).trans (List.Perm.cons _ ?_)
    exact (List.perm_middle (l₁ := [_, _, _])).trans (List.Perm.refl _)
  have S := S.perm p1
  have hw : wd ≤ 4 := by (clear hz h40 eC v0 v1; (first | lia | omega))
  have h0 : LInv w O I₂ L H R T K wd tw (4 * (3 + mv0).toNat + 2 * 0 + 1) s₂₀ :=
    ⟨I₂, m₆, hc₂, #[], [], 0, tk, { a := fa, s := fs, ah := fah, vals := #[], first := .none, last := .none, lss := [], as := [] }, [], 0, 3 + mv0, tm, ⟨.rfl, S, hv, hH₂.le l₂, .nil, rfl, Nat.zero_le _,
      ⟨⟨ListH.nil, ⟨#[], [], hah, .nil, rfl, fun c hc => (nomatch hc), by decide⟩, fun z => absurd z (by decide), fun z => absurd rfl z, Nat.le_refl _⟩, trivial⟩, by decide, by decide, by decide, by decide⟩, by (clear hz h40 eC w0 w1 hw; (first | lia | omega)), rfl⟩
  refine wpAny_execs_cons (loopL (n := n + 39) hA hw h0 fun s₂₁ I₃ m' hc' rv rs k t f l₃ S m1 m2 m3 hr hrs hn ht hl hz => ?_)
  exact retL (n := n) hA hw S m1 m2 m3 hr hrs hn ht hl hz fun s' J ms' lJ hm S => q s' J ms' (((l₁.trans l₂).trans l₃).trans lJ) hm S
end

end
section
section
variable {w : World} {s₁ : Shared} {h₁ : Heap} {mg mb : Str → Option Value} {a sl : Addr} {cd : Value} {vs : List Value} {ns : List Int} {m : Str → Option Value} {A : Around} {d : Drawn} {t : Nat} {p : Program} {loose : List Str} {mean : ExcName → Option Value}
noncomputable def I0 (h : Heap) : Im := fun a => if a = 373 then none else h.get? a
theorem base0 (KX : (KH w.params).In s₁.heap) (T : Top p loose mean mg mb s₁.heap) : Base w (I0 s₁.heap) := by
  have ne : ∀ a o, s₁.heap.get? a = some o → a ≠ 373 → I0 s₁.heap a = some o := fun a o e h => by unfold I0; rw [if_neg h]; exact e
  have n3 : ∀ a o, s₁.heap.get? a = some o → (∃ es ep, o.data = .dict es ep) → a ≠ 373 := by
    rintro a o e ⟨es, ep, hd⟩ rfl
    have := KX 373 (tabObj #[]) (by rfl)
    rw [this] at e; cases e; cases hd
  refine ⟨fun a o e => ?_, ?_, ?_, ?_, ?_⟩
  · have hn : a ≠ 373 := by
      rintro rfl
      rw [show (K0 w.params).lookup 373 = none from by kernel_rfl] at e; cases e
    refine ne a o (KX a o ?_) hn
    show ((373, _) :: K0 w.params).lookup a = some o
    rw [List.lookup_cons, show (a == 373) = false from beq_false_of_ne hn]; exact e
  · obtain ⟨o, es, ep, e, h1, h2, h3⟩ := T.b
    exact ⟨o, es, ep, ne _ _ e (n3 _ _ e ⟨_, _, h1⟩), h1, h2, fun x hx => (h3 x).trans (T.builtins x hx)⟩
  · obtain ⟨o, es, ep, e, h1, h2, h3⟩ := T.g
    exact ⟨o, es, ep, ne _ _ e (n3 _ _ e ⟨_, _, h1⟩), h1, h2⟩
  · obtain ⟨mc, ⟨o, es, ep, e, h1, h2, h3⟩, hn⟩ := T.nolimit
    obtain ⟨mc', ⟨o', es', ep', e', h1', h2', h3'⟩, hn'⟩ := T.nodigits
    rw [e] at e'; cases e'
    rw [h1] at h1'; cases h1'
    exact ⟨o, es, ep, ne _ _ e (n3 _ _ e ⟨_, _, h1⟩), h1, h2, (h3 _).trans hn, (h3' _).trans hn'⟩
  · obtain ⟨o, es, ep, e, h1, h2, h3⟩ := T.g
    obtain ⟨bm, ob, b1, b2, b3, b4, b5, b6⟩ := T.bmain
    refine ⟨o, es, ep, bm, ob, ne _ _ e (n3 _ _ e ⟨_, _, h1⟩), h1, h2, (h3 _).trans b1, b2, ne _ _ b3 ?_, b4, b5, b6⟩
    rintro rfl
    have := KX 373 (tabObj #[]) (by rfl)
    rw [this] at b3; cases b3; cases b6
theorem finL {Q : Flow → Shared → Prop} {E : Value → Shared → Prop} (KX : (KH w.params).In s₁.heap) (T : Top p loose mean mg mb s₁.heap) (hg : s₁.gens = #[]) (F : PyProof.Rows.Fr s₁.heap s₁.heap.objs.size h₁ m) (hm : m "script" = some (.ref sl)) (hL : s₁.heap.IsList sl vs.toArray) (hI : IntsAre vs ns) (hz : ns.length ≤ 63) (hA : Ok A 60)
    (q : ∀ s', OldK s₁.heap s'.heap → AllBare s'.gens → s'.os = s₁.os → Q (.ret (.bool true)) s') :
    wpAny (model PG w) A (execs (fnB (stA 28)) (eL s₁.heap.objs.size a cd)) Q E ⟨h₁, s₁.gens, d, t, s₁.os⟩ := by
  have h373 : s₁.heap.get? 373 = some (tabObj #[]) := KX 373 (tabObj #[]) (by rfl)
  have lt373 : 373 < s₁.heap.objs.size := Heap.lt_size h373
  have S : St w s₁.os (I0 s₁.heap) [(s₁.heap.objs.size, .ns m), (373, .tb)] ⟨h₁, s₁.gens, d, t, s₁.os⟩ := by
    refine ⟨base0 KX T, fun b o e => ?_, fun r hr => ?_, fun r hr => ?_, ?_, ⟨.of_eq hg, rfl⟩⟩
    · unfold I0 at e
      split at e
      · cases e
      · exact F.keep b o e
    · rcases List.mem_cons.mp hr with rfl | hr
      · exact F.ns
      · rw [List.mem_singleton.mp hr]
        exact ⟨#[], F.keep _ _ h373, trivial⟩
    · rcases List.mem_cons.mp hr with rfl | hr
      · show I0 s₁.heap s₁.heap.objs.size = none
        unfold I0
        rw [if_neg (Nat.ne_of_gt lt373)]
        cases e : s₁.heap.get? s₁.heap.objs.size with
        | none => rfl
        | some o => exact absurd (Heap.lt_size e) (Nat.lt_irrefl _)
      · rw [List.mem_singleton.mp hr]; exact if_pos rfl
    · rw [List.map_cons, List.map_cons, List.map_nil]
      refine List.nodup_cons.mpr ⟨fun z => ?_, List.nodup_cons.mpr ⟨fun z => (nomatch z), List.nodup_nil⟩⟩
      have := List.mem_singleton.mp z
      exact absurd this (Nat.ne_of_gt lt373)
  have intsV : ∀ {l : List Value} {k : List Int}, IntsAre l k → l.length = k.length ∧ ∀ v ∈ l, ∃ n t, v = Value.int n t := by
    intro l k h
    induction h with
    | nil => exact ⟨rfl, fun v hv => (nomatch hv)⟩
    | cons k t _ ih =>
      refine ⟨by simp [ih.1], fun v hv => ?_⟩
      rcases List.mem_cons.mp hv with rfl | hv
      · exact ⟨_, _, rfl⟩
      · exact ih.2 v hv
  obtain ⟨i1, i2⟩ := intsV hI
  have hL' : h₁.IsList sl vs.toArray := by
    obtain ⟨o, e, r⟩ := hL
    exact ⟨o, F.keep _ _ e, r⟩
  refine lawBody (n := 0) (sl := sl) (xs := vs.toArray) hA S hm hL' (fun v hv => i2 v (by simpa using hv)) (by simp; (clear lt373; (first | lia | omega))) fun s' J ms' lJ hmem S => ?_
  refine q s' ⟨fun b o e => ?_, fun b o e => ?_⟩ S.gens.1 S.gens.2
  · by_cases hb : b = 373
    · subst hb
      rw [h373] at e; cases e
      obtain ⟨ps, e2, _⟩ := S.mu _ hmem
      have h375 : s₁.heap.get? 375 = some (ko375 w.params) := KX 375 (ko375 w.params) (by kernel_rfl)
      refine .inr (.inl ⟨⟨375, _, _, h375, rfl, rfl, by rfl⟩, rfl, #[], ps, rfl, ?_⟩)
      rw [Array.empty_append]; exact e2
    · exact .inl (S.imm b o (lJ b o (by unfold I0; rw [if_neg hb]; exact e)))
  · by_cases hb : b = 373
    · subst hb
      obtain ⟨ps, e2, _⟩ := S.mu _ hmem
      exact ⟨_, e2⟩
    · exact ⟨o, S.imm b o (lJ b o (by unfold I0; rw [if_neg hb]; exact e))⟩
end

end
end Mine
namespace Mine
theorem okA (e : Env) : Ok (callerA.deeper e) 60 := ⟨rfl, by show (1 + claimMargin + 1) + 2 * 60 ≤ 900; decide, by show (4 + 3) + 40 * 60 ≤ 9000; decide⟩
theorem endG {c : ClaimW} {cl : Str → Option Addr} {mean : ExcName → Option Value} {args : List WData} {s₁ s' : Shared} {b : Bool}
    (D : OldK s₁.heap s'.heap) (ho : s'.os = s₁.os) (hr : ∀ cls, c.raises args cls = false) (hp : c.post args (.bool b) args = true) (hb : AllBare s'.gens) :
    GoodWG c cl mean args s₁ (.ok (.ret (.bool b))) s' :=
  ⟨.inl ⟨_, _, [], rfl, hr, ReadsW.bool b, hp, fun _ => ⟨List.nodup_nil, fun _ hm => (nomatch hm)⟩⟩, D, ho, hb⟩
end Mine
set_option maxRecDepth 100000 in
set_option maxHeartbeats 8000000 in
theorem PySem.Challenge.cw_ez0174_01_holds : PySem.Challenge.rw_ez0174_01.Holds := by
  refine Mine.hd ?_
  intro w s₀ s₁ mg mb G Y fa o pm cd doc dV kV ho hd hcd hD hmg hg args vals as hpre hlay hrd hwl hlo
  have KX := kIn_of Y
  have X := (Ground.X G).1
  have V := (Ground.X G).2
  refine Ground.open G ?_
  intro T B D TE TW
  try (refine guard_noD D (by decide +kernel) ?_; clear D)
  obtain ⟨_, _, M⟩ := bmod_of_top T
  have TA := at_of_top T
  try (obtain ⟨_, _, he, B0⟩ := based_of_top T rfl hmg ho hd; have he' : cd = _ := he; subst he'; clear he)
  clear hmg
  wrow_args hpre hlay hrd hwl hlo
  first | refine callC_kw (enter_call ?_) | refine enter_call ?_ | refine callC_kw (enter_callW ?_) | refine enter_callW ?_ | w_how
  w_top on
  have K0 := below_caller (Top.heap T)
  w_call any ho hd hcd hD T F
  refine Mine.finL (ns := _) KX T hg F ?_ (by assumption) (by assumption) (by omega) (Mine.okA _) fun s' h1 h2 h3 => ?_
  · rfl
  · refine Mine.endG h1 h3 (fun _ => rfl) ?_ h2
    first | rfl | wrow_post
