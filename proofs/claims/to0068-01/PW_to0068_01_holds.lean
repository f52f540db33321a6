import PyProof.Rows.All
import Wide.All
import OpenK.AllK
import Wide.FinOn
import PySem.Challenge.RW_to0068_01
open PySem PySem.W PyProof.Rows PySem.Calls PySem.Spec
set_option Elab.async false
set_option maxRecDepth 100000
set_option maxHeartbeats 0
set_option compiler.extract_closed false
set_option linter.unusedVariables false
namespace Mine
theorem ws : PySem.Challenge.rw_to0068_01.wellSaid = true := by
  unfold OpenLaw.wellSaid OpenRow.wellSaid OpenRow.partSaid looksOpen
  repeat' (with_reducible refine look_both ?_ ?_)
  all_goals decide +kernel
noncomputable def sFn (i : Nat) : Stmt := ((behindTheImports PySem.Challenge.pw_to0068_01)[i]?).getD (.Pass ⟨0, 0, 0, 0⟩)
noncomputable def sIn (i j : Nat) : Stmt := match sFn i with | .ClassDef _ _ _ b .. => (b[j]?).getD (.Pass ⟨0, 0, 0, 0⟩) | s => s
noncomputable def sP : Stmt → Arguments | .FunctionDef _ p .. => p | _ => default
noncomputable def sB : Stmt → List Stmt | .FunctionDef _ _ b .. => b | .ClassDef _ _ _ b .. => b | _ => []
noncomputable def sS : Stmt → Scope | .FunctionDef _ _ _ _ _ _ s .. => s | .ClassDef _ _ _ _ _ _ s .. => s | _ => default
noncomputable def vs (s : String) (t : Nat) : Value := .str (.ofString s) t
noncomputable def vi (n t : Nat) : Value := .int (Int.ofNat n) t
noncomputable def ke (P : Params) (s : String) (t : Nat) (v : Value) : DictEntry := ⟨PyData.keyHash P (.ofString s), vs s t, v⟩
noncomputable def ho0 (P : Params) : Obj := { cls := Value.type "dict", data := Data.dict #[ke P "builtins" (nat_lit 162) (.ref (nat_lit 4)), ke P "__main__" (nat_lit 163) (.ref (nat_lit 5)), ke P "_sre" (nat_lit 244) (.ref (nat_lit 12))] 3 }
noncomputable def ho1 (P : Params) : Obj := { cls := Value.none, data := Data.dict #[{ hash := PyData.keyHash P ⟨#[105, 109, 112, 111, 114, 116, 46, 108, 111, 97, 100, 101, 100, 46, 95, 115, 114, 101]⟩, key := Value.str ⟨#[105, 109, 112, 111, 114, 116, 46, 108, 111, 97, 100, 101, 100, 46, 95, 115, 114, 101]⟩ 183, val := Value.bool Bool.true }, ke P "class._frozen_importlib.BuiltinImporter" (nat_lit 185) (.ref (nat_lit 14)), { hash := PyData.keyHash P ⟨#[119, 97, 116, 99, 104, 101, 100, 46, 105, 109, 112, 111, 114, 116]⟩, key := Value.str ⟨#[119, 97, 116, 99, 104, 101, 100, 46, 105, 109, 112, 111, 114, 116]⟩ 206, val := .ref (nat_lit 18) }, ke P "class._frozen_importlib.ModuleSpec" (nat_lit 216) (.ref (nat_lit 22)), ke P "sys.modules.booked-epoch" (nat_lit 245) (vi (nat_lit 3) (nat_lit 0)), { hash := PyData.keyHash P ⟨#[105, 109, 112, 111, 114, 116, 46, 108, 97, 116, 101, 114, 45, 108, 97, 105, 100, 46, 95, 115, 114, 101]⟩, key := Value.str ⟨#[105, 109, 112, 111, 114, 116, 46, 108, 97, 116, 101, 114, 45, 108, 97, 105, 100, 46, 95, 115, 114, 101]⟩ 270, val := Value.bool Bool.true }, ke P "watched.library" (nat_lit 272) (.ref (nat_lit 27)), ke P "watched.library-objects" (nat_lit 0) (vs "\x0c" (nat_lit 0)), ke P "watched.library-deep._sre" (nat_lit 273) (vs "\x04\x00\x00\x0b\x04\x00\x00\x0b\x04\x00\x00\x03\x04\x00\x00\x0b\x08\x04dict\x02" (nat_lit 0))] 9 }
noncomputable def ho2 (P : Params) : Obj := { cls := Value.type "dict", data := Data.dict #[ke P "__name__" (nat_lit 165) (vs "__main__" (nat_lit 164)), ke P "__doc__" (nat_lit 166) (Value.none), ke P "__package__" (nat_lit 167) (Value.none), ke P "__loader__" (nat_lit 168) (.builtin "__main__.__loader__#opaque"), ke P "__spec__" (nat_lit 169) (Value.none), ke P "__annotations__" (nat_lit 170) (.ref (nat_lit 6)), ke P "__builtins__" (nat_lit 171) (.ref (nat_lit 4)), ke P "__file__" (nat_lit 173) (vs "/claim/cut.py" (nat_lit 172)), ke P "__cached__" (nat_lit 174) (Value.none), ke P "_sre" (nat_lit 275) (.ref (nat_lit 12))] 10 }
noncomputable def ho3 (P : Params) : Obj := { cls := Value.type "dict", data := Data.dict #[ke P "__name__" (nat_lit 247) (vs "_sre" (nat_lit 246)), ke P "__doc__" (nat_lit 248) (Value.none), ke P "__package__" (nat_lit 250) (vs "" (nat_lit 249)), ke P "__loader__" (nat_lit 251) (.builtin "off-the-table:_sre.__loader__:shared#opaque"), ke P "__spec__" (nat_lit 252) (.builtin "off-the-table:_sre.__spec__:shared#opaque"), ke P "compile" (nat_lit 253) (.builtin "_sre.compile"), ke P "template" (nat_lit 254) (.builtin "off-the-table:_sre.template:shared#opaque"), ke P "getcodesize" (nat_lit 255) (.builtin "off-the-table:_sre.getcodesize:shared#opaque"), ke P "ascii_iscased" (nat_lit 256) (.builtin "off-the-table:_sre.ascii_iscased:shared#opaque"), ke P "unicode_iscased" (nat_lit 257) (.builtin "off-the-table:_sre.unicode_iscased:shared#opaque"), ke P "ascii_tolower" (nat_lit 258) (.builtin "off-the-table:_sre.ascii_tolower:shared#opaque"), ke P "unicode_tolower" (nat_lit 259) (.builtin "off-the-table:_sre.unicode_tolower:shared#opaque"), ke P "MAGIC" (nat_lit 261) (vi (nat_lit 20230612) (nat_lit 260)), ke P "CODESIZE" (nat_lit 263) (vi (nat_lit 4) (nat_lit 262)), ke P "MAXREPEAT" (nat_lit 265) (vi (nat_lit 4294967295) (nat_lit 264)), ke P "MAXGROUPS" (nat_lit 267) (vi (nat_lit 1073741823) (nat_lit 266)), ke P "copyright" (nat_lit 269) (vs " SRE 2.2.2 Copyright (c) 1997-2002 by Secret Labs AB " (nat_lit 268))] 17 }
noncomputable def ho4 (P : Params) : Obj := { cls := Value.type "module", dict := Option.some 11 }
noncomputable def ho5 (P : Params) : Obj := { cls := Value.type "dict", data := Data.dict #[ke P "__module__" (nat_lit 189) (vs "_frozen_importlib" (nat_lit 186)), ke P "__firstlineno__" (nat_lit 190) (vi (nat_lit 971) (nat_lit 187)), ke P "__doc__" (nat_lit 191) (.builtin "_frozen_importlib.BuiltinImporter.__doc__:str#opaque"), ke P "_ORIGIN" (nat_lit 192) (vs "built-in" (nat_lit 188)), ke P "find_spec" (nat_lit 193) (.builtin "_frozen_importlib.BuiltinImporter.find_spec#opaque"), ke P "create_module" (nat_lit 194) (.builtin "_frozen_importlib.BuiltinImporter.create_module#opaque"), ke P "exec_module" (nat_lit 195) (.builtin "_frozen_importlib.BuiltinImporter.exec_module#opaque"), ke P "get_code" (nat_lit 196) (.builtin "_frozen_importlib.BuiltinImporter.get_code#opaque"), ke P "get_source" (nat_lit 197) (.builtin "_frozen_importlib.BuiltinImporter.get_source#opaque"), ke P "is_package" (nat_lit 198) (.builtin "_frozen_importlib.BuiltinImporter.is_package#opaque"), ke P "load_module" (nat_lit 199) (.builtin "_frozen_importlib.BuiltinImporter.load_module#opaque"), ke P "__static_attributes__" (nat_lit 200) (.ref (nat_lit 15)), ke P "__dict__" (nat_lit 202) (.ref (nat_lit 16)), ke P "__weakref__" (nat_lit 204) (.ref (nat_lit 17))] 14 }
noncomputable def ho6 (P : Params) : Obj := { cls := Value.type "type", data := Data.cls { name := Str.ofString "BuiltinImporter", bases := [Value.type "object"], mro := [.ref (nat_lit 14), Value.type "object"], ns := 13, qualname := Str.ofString "BuiltinImporter" } }
noncomputable def ho7 (P : Params) : Obj := { cls := Value.type "getset_descriptor", data := Data.fields #[vs "__dict__" (nat_lit 201), .ref (nat_lit 14), .builtin "function.__dict__", .builtin "function.__dict__#set"] }
noncomputable def ho8 (P : Params) : Obj := { cls := Value.type "getset_descriptor", data := Data.fields #[vs "__weakref__" (nat_lit 203), .ref (nat_lit 14), .builtin "ExceptionGroup.__weakref__", Value.none] }
noncomputable def ho10 (P : Params) : Obj := { cls := Value.type "list", data := Data.seq #[] }
noncomputable def ho11 (P : Params) : Obj := { cls := Value.type "dict", data := Data.dict #[ke P "name" (nat_lit 208) (vs "_sre" (nat_lit 207)), ke P "loader" (nat_lit 209) (.ref (nat_lit 14)), ke P "origin" (nat_lit 210) (vs "built-in" (nat_lit 184)), ke P "loader_state" (nat_lit 211) (Value.none), ke P "submodule_search_locations" (nat_lit 212) (Value.none), ke P "_uninitialized_submodules" (nat_lit 213) (.ref (nat_lit 19)), ke P "_set_fileattr" (nat_lit 214) (Value.bool Bool.false), ke P "_cached" (nat_lit 215) (Value.none), ke P "_initializing" (nat_lit 243) (Value.bool Bool.false)] 9 }
noncomputable def ho12 (P : Params) : Obj := { cls := Value.type "dict", data := Data.dict #[ke P "__module__" (nat_lit 227) (vs "_frozen_importlib" (nat_lit 217)), ke P "__firstlineno__" (nat_lit 228) (vi (nat_lit 562) (nat_lit 218)), ke P "__doc__" (nat_lit 229) (.builtin "_frozen_importlib.ModuleSpec.__doc__:str#opaque"), ke P "__init__" (nat_lit 230) (.builtin "_frozen_importlib.ModuleSpec.__init__#opaque"), ke P "__repr__" (nat_lit 231) (.builtin "_frozen_importlib.ModuleSpec.__repr__#opaque"), ke P "__eq__" (nat_lit 232) (.builtin "_frozen_importlib.ModuleSpec.__eq__#opaque"), ke P "cached" (nat_lit 233) (.builtin "_frozen_importlib.ModuleSpec.cached#opaque"), ke P "parent" (nat_lit 234) (.builtin "_frozen_importlib.ModuleSpec.parent#opaque"), ke P "has_location" (nat_lit 235) (.builtin "_frozen_importlib.ModuleSpec.has_location#opaque"), ke P "__static_attributes__" (nat_lit 236) (.ref (nat_lit 23)), ke P "__dict__" (nat_lit 238) (.ref (nat_lit 24)), ke P "__weakref__" (nat_lit 240) (.ref (nat_lit 25)), ke P "__hash__" (nat_lit 241) (Value.none)] 13 }
noncomputable def ents (o : Obj) : Array DictEntry := match o.data with | .dict es _ => es | _ => #[]
noncomputable def ho9 (P : Params) : Obj := { cls := Value.none, data := Data.seq #[vi (nat_lit 13) (nat_lit 0), Builtin.packed (Builtin.flatEntries (ents (ho5 P))), Value.bool Bool.true, Value.bool Bool.true, vs "" (nat_lit 205), vi (nat_lit 21) (nat_lit 0), Builtin.packed (Builtin.flatEntries (ents (ho12 P))), Value.bool Bool.true, Value.bool Bool.true, vs "" (nat_lit 242)] 1 }
noncomputable def ho13 (P : Params) : Obj := { cls := Value.type "type", data := Data.cls { name := Str.ofString "ModuleSpec", bases := [Value.type "object"], mro := [.ref (nat_lit 22), Value.type "object"], ns := 21, qualname := Str.ofString "ModuleSpec" } }
noncomputable def ho14 (P : Params) : Obj := { cls := Value.type "tuple", data := Data.seq #[vs "_cached" (nat_lit 219), vs "_set_fileattr" (nat_lit 220), vs "_uninitialized_submodules" (nat_lit 221), vs "loader" (nat_lit 222), vs "loader_state" (nat_lit 223), vs "name" (nat_lit 224), vs "origin" (nat_lit 225), vs "submodule_search_locations" (nat_lit 226)] }
noncomputable def ho15 (P : Params) : Obj := { cls := Value.type "getset_descriptor", data := Data.fields #[vs "__dict__" (nat_lit 237), .ref (nat_lit 22), .builtin "function.__dict__", .builtin "function.__dict__#set"] }
noncomputable def ho16 (P : Params) : Obj := { cls := Value.type "getset_descriptor", data := Data.fields #[vs "__weakref__" (nat_lit 239), .ref (nat_lit 22), .builtin "ExceptionGroup.__weakref__", Value.none] }
noncomputable def ho17 (P : Params) : Obj := { cls := .ref (nat_lit 22), dict := Option.some 20 }
noncomputable def ho18 (P : Params) : Obj := { cls := Value.none, data := Data.seq #[vi (nat_lit 11) (nat_lit 0), Value.str { cps := #[6, 247, 8, 95, 95, 110, 97, 109, 101, 95, 95, 6, 246, 4, 95, 115, 114, 101, 6, 248, 7, 95, 95, 100, 111, 99, 95, 95, 0, 6, 250, 11, 95, 95, 112, 97, 99, 107, 97, 103, 101, 95, 95, 6, 249, 0, 6, 251, 10, 95, 95, 108, 111, 97, 100, 101, 114, 95, 95, 4, 0, 0, 14, 6, 252, 8, 95, 95, 115, 112, 101, 99, 95, 95, 4, 0, 0, 26, 6, 253, 7, 99, 111, 109, 112, 105, 108, 101, 9, 12, 95, 115, 114, 101, 46, 99, 111, 109, 112, 105, 108, 101, 6, 254, 8, 116, 101, 109, 112, 108, 97, 116, 101, 9, 13, 95, 115, 114, 101, 46, 116, 101, 109, 112, 108, 97, 116, 101, 6, 255, 11, 103, 101, 116, 99, 111, 100, 101, 115, 105, 122, 101, 9, 16, 95, 115, 114, 101, 46, 103, 101, 116, 99, 111, 100, 101, 115, 105, 122, 101, 6, 256, 13, 97, 115, 99, 105, 105, 95, 105, 115, 99, 97, 115, 101, 100, 9, 18, 95, 115, 114, 101, 46, 97, 115, 99, 105, 105, 95, 105, 115, 99, 97, 115, 101, 100, 6, 257, 15, 117, 110, 105, 99, 111, 100, 101, 95, 105, 115, 99, 97, 115, 101, 100, 9, 20, 95, 115, 114, 101, 46, 117, 110, 105, 99, 111, 100, 101, 95, 105, 115, 99, 97, 115, 101, 100, 6, 258, 13, 97, 115, 99, 105, 105, 95, 116, 111, 108, 111, 119, 101, 114, 9, 18, 95, 115, 114, 101, 46, 97, 115, 99, 105, 105, 95, 116, 111, 108, 111, 119, 101, 114, 6, 259, 15, 117, 110, 105, 99, 111, 100, 101, 95, 116, 111, 108, 111, 119, 101, 114, 9, 20, 95, 115, 114, 101, 46, 117, 110, 105, 99, 111, 100, 101, 95, 116, 111, 108, 111, 119, 101, 114, 6, 261, 5, 77, 65, 71, 73, 67, 4, 260, 0, 20230612, 6, 263, 8, 67, 79, 68, 69, 83, 73, 90, 69, 4, 262, 0, 4, 6, 265, 9, 77, 65, 88, 82, 69, 80, 69, 65, 84, 4, 264, 0, 4294967295, 6, 267, 9, 77, 65, 88, 71, 82, 79, 85, 80, 83, 4, 266, 0, 1073741823, 6, 269, 9, 99, 111, 112, 121, 114, 105, 103, 104, 116, 6, 268, 53, 32, 83, 82, 69, 32, 50, 46, 50, 46, 50, 32, 67, 111, 112, 121, 114, 105, 103, 104, 116, 32, 40, 99, 41, 32, 49, 57, 57, 55, 45, 50, 48, 48, 50, 32, 98, 121, 32, 83, 101, 99, 114, 101, 116, 32, 76, 97, 98, 115, 32, 65, 66, 32] } 0, Value.bool Bool.true, Value.bool Bool.false, vs "_sre" (nat_lit 271)] }
noncomputable def life_0 : Life := { }
noncomputable def drawn_0 : Drawn := { }
noncomputable def gens_0 : Array GenState := #[]
noncomputable def toks_0 : Nat := 276
noncomputable def heap_0 (P : Params) : Heap := ⟨⟨[W.boot_o_0 P, ho0 P, ho1 P, ho2 P, W.boot_o_4 P, W.boot_o_5 P, W.boot_o_6 P, W.boot_o_7 P, W.boot_o_8 P, W.boot_o_9 P, W.boot_o_10 P, ho3 P, ho4 P, ho5 P, ho6 P, W.boot_o_7 P, ho7 P, ho8 P, ho9 P, ho10 P, ho11 P, ho12 P, ho13 P, ho14 P, ho15 P, ho16 P, ho17 P, ho18 P]⟩, life_0⟩
noncomputable def ho19 (P : Params) : Obj := { cls := Value.type "code", data := Data.fields #[vs "<module>" (nat_lit 277), vs "<module>" (nat_lit 278), vs "/claim/cut.py" (nat_lit 279), vi (nat_lit 1) (nat_lit 0), vi (nat_lit 0) (nat_lit 0), vi (nat_lit 0) (nat_lit 0), vi (nat_lit 0) (nat_lit 0), vi (nat_lit 0) (nat_lit 0), .ref (nat_lit 28), Value.bool Bool.false, vi (nat_lit 276) (nat_lit 0), .ref (nat_lit 29), Value.none, Value.none, Value.none, Value.none, vi (nat_lit 280) (nat_lit 0), vi (nat_lit 1) (nat_lit 0), vs "/claim/cut.py" (nat_lit 281)] }
noncomputable def ho20 (P : Params) : Obj := { cls := Value.type "frame", slots := #[Option.some (.ref (nat_lit 30)), Option.some (.ref (nat_lit 3)), Option.some (.ref (nat_lit 3)), Option.none, Option.some (vs "__main__" (nat_lit 164)), Option.none, Option.some (.ref (nat_lit 0))] }
noncomputable def life_a : Life := { }
noncomputable def drawn_a : Drawn := { }
noncomputable def gens_a : Array GenState := #[]
noncomputable def toks_a : Nat := 282
noncomputable def heap_a (P : Params) : Heap := ⟨⟨[W.boot_o_0 P, ho0 P, ho1 P, ho2 P, W.boot_o_4 P, W.boot_o_5 P, W.boot_o_6 P, W.boot_o_7 P, W.boot_o_8 P, W.boot_o_9 P, W.boot_o_10 P, ho3 P, ho4 P, ho5 P, ho6 P, W.boot_o_7 P, ho7 P, ho8 P, ho9 P, ho10 P, ho11 P, ho12 P, ho13 P, ho14 P, ho15 P, ho16 P, ho17 P, ho18 P, W.boot_o_7 P, W.boot_o_8 P, ho19 P, ho20 P]⟩, life_a⟩
noncomputable def life_b : Life := { }
noncomputable def drawn_b : Drawn := { }
noncomputable def gens_b : Array GenState := #[]
noncomputable def toks_b : Nat := 282
noncomputable def tree_b (P : Params) : BT := (.node (W.boot_o_0 P) (.node (ho0 P) (.node (ho2 P) (.node (W.boot_o_7 P) (.node (W.boot_o_7 P) (.node (ho20 P) .nil .nil) .nil) (.node (ho14 P) .nil .nil)) (.node (ho3 P) (.node (ho10 P) .nil .nil) (.node (ho18 P) .nil .nil))) (.node (W.boot_o_5 P) (.node (W.boot_o_9 P) (.node (ho8 P) .nil .nil) (.node (ho16 P) .nil .nil)) (.node (ho5 P) (.node (ho12 P) .nil .nil) (.node (W.boot_o_8 P) .nil .nil)))) (.node (ho1 P) (.node (W.boot_o_4 P) (.node (W.boot_o_8 P) (.node (ho7 P) .nil .nil) (.node (ho15 P) .nil .nil)) (.node (ho4 P) (.node (ho11 P) .nil .nil) (.node (W.boot_o_7 P) .nil .nil))) (.node (W.boot_o_6 P) (.node (W.boot_o_10 P) (.node (ho9 P) .nil .nil) (.node (ho17 P) .nil .nil)) (.node (ho6 P) (.node (ho13 P) .nil .nil) (.node (ho19 P) .nil .nil)))))
noncomputable def ho21 (P : Params) : Obj := { cls := Value.type "dict", data := Data.dict #[ke P "__name__" (nat_lit 165) (vs "cpy313.netrc" (nat_lit 311)), ke P "__doc__" (nat_lit 166) (Value.none), ke P "__package__" (nat_lit 167) (Value.none), ke P "__loader__" (nat_lit 168) (.builtin "__main__.__loader__#opaque"), ke P "__spec__" (nat_lit 169) (Value.none), ke P "__annotations__" (nat_lit 170) (.ref (nat_lit 6)), ke P "__builtins__" (nat_lit 171) (.ref (nat_lit 4)), ke P "__file__" (nat_lit 173) (vs "/claim/cut.py" (nat_lit 172)), ke P "__cached__" (nat_lit 174) (Value.none), ke P "_sre" (nat_lit 275) (.ref (nat_lit 12)), ke P "_wall" (nat_lit 288) (.ref (nat_lit 38)), ke P "CHAR_MAX" (nat_lit 292) (vi (nat_lit 127) (nat_lit 291)), ke P "_grouping_intervals" (nat_lit 301) (.ref (nat_lit 45)), ke P "_build_localename" (nat_lit 310) (.ref (nat_lit 52)), ke P "_netrclex" (nat_lit 370) (.ref (nat_lit 90))] 15 }
noncomputable def ho22 (P : Params) : Obj := { cls := Value.none, data := Data.fields #[vi (nat_lit 2) (nat_lit 0), vi (nat_lit 0) (nat_lit 0), .ref (nat_lit 37), vi (nat_lit 7) (nat_lit 0), vi (nat_lit 0) (nat_lit 0), .ref (nat_lit 44), vi (nat_lit 19) (nat_lit 0), vi (nat_lit 0) (nat_lit 0), .ref (nat_lit 51), vi (nat_lit 31) (nat_lit 0), vi (nat_lit 0) (nat_lit 0), .ref (nat_lit 58)] }
noncomputable def ho23 (P : Params) : Obj := { cls := Value.type "tuple", data := Data.seq #[vs "k" (nat_lit 285)] }
noncomputable def ho24 (P : Params) : Obj := { cls := Value.none, data := Data.func { name := Str.ofString "_wall", qualname := Str.ofString "_wall", params := Mine.sP (Mine.sFn 0), body := FuncBody.stmts (Mine.sB (Mine.sFn 0)), scope := Mine.sS (Mine.sFn 0), globals := 0, closure := [], defaults := Value.none, kwdefaults := Value.none } }
noncomputable def ho25 (P : Params) : Obj := { cls := Value.type "code", data := Data.fields #[vs "_wall" (nat_lit 282), vs "_wall" (nat_lit 283), vs "/claim/cut.py" (nat_lit 284), vi (nat_lit 2) (nat_lit 0), vi (nat_lit 1) (nat_lit 0), vi (nat_lit 0) (nat_lit 0), vi (nat_lit 0) (nat_lit 0), vi (nat_lit 3) (nat_lit 0), .ref (nat_lit 32), Value.bool Bool.true, vi (nat_lit 276) (nat_lit 0), .ref (nat_lit 33), Value.none, .ref (nat_lit 34), .ref (nat_lit 35), .ref (nat_lit 36), vi (nat_lit 286) (nat_lit 0), vi (nat_lit 2) (nat_lit 0), vs "/claim/cut.py" (nat_lit 287)] }
noncomputable def ho26 (P : Params) : Obj := { cls := Value.type "function", data := Data.func { name := Str.ofString "_wall", qualname := Str.ofString "_wall", params := Mine.sP (Mine.sFn 0), body := FuncBody.stmts (Mine.sB (Mine.sFn 0)), scope := Mine.sS (Mine.sFn 0), globals := 3, closure := [], defaults := Value.none, kwdefaults := Value.none, pyModule := vs "__main__" (nat_lit 164), code := .ref (nat_lit 37) } }
noncomputable def ho27 (P : Params) : Obj := { cls := Value.type "tuple", data := Data.seq #[vs "grouping" (nat_lit 296), vs "last_interval" (nat_lit 297), vs "interval" (nat_lit 298)] }
noncomputable def ho28 (P : Params) : Obj := { cls := Value.none, data := Data.func { name := Str.ofString "_grouping_intervals", qualname := Str.ofString "_grouping_intervals", params := Mine.sP (Mine.sFn 3), body := FuncBody.stmts (Mine.sB (Mine.sFn 3)), scope := Mine.sS (Mine.sFn 3), globals := 0, closure := [], defaults := Value.none, kwdefaults := Value.none } }
noncomputable def ho29 (P : Params) : Obj := { cls := Value.type "code", data := Data.fields #[vs "_grouping_intervals" (nat_lit 293), vs "_grouping_intervals" (nat_lit 294), vs "/claim/cut.py" (nat_lit 295), vi (nat_lit 7) (nat_lit 0), vi (nat_lit 1) (nat_lit 0), vi (nat_lit 0) (nat_lit 0), vi (nat_lit 0) (nat_lit 0), vi (nat_lit 35) (nat_lit 0), .ref (nat_lit 39), Value.bool Bool.true, vi (nat_lit 276) (nat_lit 0), .ref (nat_lit 40), Value.none, .ref (nat_lit 41), .ref (nat_lit 42), .ref (nat_lit 43), vi (nat_lit 299) (nat_lit 0), vi (nat_lit 7) (nat_lit 0), vs "/claim/cut.py" (nat_lit 300)] }
noncomputable def ho30 (P : Params) : Obj := { cls := Value.type "function", data := Data.func { name := Str.ofString "_grouping_intervals", qualname := Str.ofString "_grouping_intervals", params := Mine.sP (Mine.sFn 3), body := FuncBody.stmts (Mine.sB (Mine.sFn 3)), scope := Mine.sS (Mine.sFn 3), globals := 3, closure := [], defaults := Value.none, kwdefaults := Value.none, pyModule := vs "cpy313.locale" (nat_lit 289), code := .ref (nat_lit 44) } }
noncomputable def ho31 (P : Params) : Obj := { cls := Value.type "tuple", data := Data.seq #[vs "localetuple" (nat_lit 305), vs "language" (nat_lit 306), vs "encoding" (nat_lit 307)] }
noncomputable def ho32 (P : Params) : Obj := { cls := Value.none, data := Data.func { name := Str.ofString "_build_localename", qualname := Str.ofString "_build_localename", params := Mine.sP (Mine.sFn 4), body := FuncBody.stmts (Mine.sB (Mine.sFn 4)), scope := Mine.sS (Mine.sFn 4), globals := 0, closure := [], defaults := Value.none, kwdefaults := Value.none } }
noncomputable def ho33 (P : Params) : Obj := { cls := Value.type "code", data := Data.fields #[vs "_build_localename" (nat_lit 302), vs "_build_localename" (nat_lit 303), vs "/claim/cut.py" (nat_lit 304), vi (nat_lit 19) (nat_lit 0), vi (nat_lit 1) (nat_lit 0), vi (nat_lit 0) (nat_lit 0), vi (nat_lit 0) (nat_lit 0), vi (nat_lit 3) (nat_lit 0), .ref (nat_lit 46), Value.bool Bool.true, vi (nat_lit 276) (nat_lit 0), .ref (nat_lit 47), Value.none, .ref (nat_lit 48), .ref (nat_lit 49), .ref (nat_lit 50), vi (nat_lit 308) (nat_lit 0), vi (nat_lit 19) (nat_lit 0), vs "/claim/cut.py" (nat_lit 309)] }
noncomputable def ho34 (P : Params) : Obj := { cls := Value.type "function", data := Data.func { name := Str.ofString "_build_localename", qualname := Str.ofString "_build_localename", params := Mine.sP (Mine.sFn 4), body := FuncBody.stmts (Mine.sB (Mine.sFn 4)), scope := Mine.sS (Mine.sFn 4), globals := 3, closure := [], defaults := Value.none, kwdefaults := Value.none, pyModule := vs "cpy313.locale" (nat_lit 289), code := .ref (nat_lit 51) } }
noncomputable def ho35 (P : Params) : Obj := { cls := Value.type "builtin_function_or_method", data := Data.fields #[.builtin "type.__prepare__", Value.type "type"] }
noncomputable def ho36 (P : Params) : Obj := { cls := Value.type "dict", data := Data.dict #[ke P "__module__" (nat_lit 320) (vs "cpy313.netrc" (nat_lit 311)), ke P "__qualname__" (nat_lit 322) (vs "_netrclex" (nat_lit 321)), ke P "__firstlineno__" (nat_lit 324) (vi (nat_lit 31) (nat_lit 323)), ke P "__init__" (nat_lit 332) (.ref (nat_lit 66)), ke P "_read_char" (nat_lit 340) (.ref (nat_lit 73)), ke P "get_token" (nat_lit 350) (.ref (nat_lit 80)), ke P "push_token" (nat_lit 358) (.ref (nat_lit 87)), ke P "__static_attributes__" (nat_lit 363) (.ref (nat_lit 88))] 8 }
noncomputable def ho37 (P : Params) : Obj := { cls := Value.none, data := Data.fields #[vi (nat_lit 33) (nat_lit 0), vi (nat_lit 4) (nat_lit 0), .ref (nat_lit 65), vi (nat_lit 39) (nat_lit 0), vi (nat_lit 4) (nat_lit 0), .ref (nat_lit 72), vi (nat_lit 45) (nat_lit 0), vi (nat_lit 4) (nat_lit 0), .ref (nat_lit 79), vi (nat_lit 72) (nat_lit 0), vi (nat_lit 4) (nat_lit 0), .ref (nat_lit 86)] }
noncomputable def ho38 (P : Params) : Obj := { cls := Value.type "code", data := Data.fields #[vs "_netrclex" (nat_lit 315), vs "_netrclex" (nat_lit 316), vs "/claim/cut.py" (nat_lit 317), vi (nat_lit 31) (nat_lit 0), vi (nat_lit 0) (nat_lit 0), vi (nat_lit 0) (nat_lit 0), vi (nat_lit 0) (nat_lit 0), vi (nat_lit 0) (nat_lit 0), .ref (nat_lit 56), Value.bool Bool.false, vi (nat_lit 276) (nat_lit 0), .ref (nat_lit 57), Value.none, Value.none, Value.none, Value.none, vi (nat_lit 318) (nat_lit 0), vi (nat_lit 31) (nat_lit 0), vs "/claim/cut.py" (nat_lit 319)] }
noncomputable def ho39 (P : Params) : Obj := { cls := Value.type "frame", slots := #[Option.some (.ref (nat_lit 58)), Option.some (.ref (nat_lit 3)), Option.some (.ref (nat_lit 55)), Option.none, Option.some (vs "cpy313.netrc" (nat_lit 311)), Option.none, Option.some (.ref (nat_lit 0))] }
noncomputable def ho40 (P : Params) : Obj := { cls := Value.type "tuple", data := Data.seq #[vs "self" (nat_lit 328), vs "fp" (nat_lit 329)] }
noncomputable def ho41 (P : Params) : Obj := { cls := Value.none, data := Data.func { name := Str.ofString "__init__", qualname := Str.ofString "_netrclex.__init__", params := Mine.sP (Mine.sIn 6 0), body := FuncBody.stmts (Mine.sB (Mine.sIn 6 0)), scope := Mine.sS (Mine.sIn 6 0), globals := 0, closure := [], defaults := Value.none, kwdefaults := Value.none } }
noncomputable def ho42 (P : Params) : Obj := { cls := Value.type "code", data := Data.fields #[vs "__init__" (nat_lit 325), vs "_netrclex.__init__" (nat_lit 326), vs "/claim/cut.py" (nat_lit 327), vi (nat_lit 33) (nat_lit 0), vi (nat_lit 2) (nat_lit 0), vi (nat_lit 0) (nat_lit 0), vi (nat_lit 0) (nat_lit 0), vi (nat_lit 3) (nat_lit 0), .ref (nat_lit 60), Value.bool Bool.true, vi (nat_lit 276) (nat_lit 0), .ref (nat_lit 61), Value.none, .ref (nat_lit 62), .ref (nat_lit 63), .ref (nat_lit 64), vi (nat_lit 330) (nat_lit 0), vi (nat_lit 33) (nat_lit 0), vs "/claim/cut.py" (nat_lit 331)] }
noncomputable def ho43 (P : Params) : Obj := { cls := Value.type "function", data := Data.func { name := Str.ofString "__init__", qualname := Str.ofString "_netrclex.__init__", params := Mine.sP (Mine.sIn 6 0), body := FuncBody.stmts (Mine.sB (Mine.sIn 6 0)), scope := Mine.sS (Mine.sIn 6 0), globals := 3, closure := [], defaults := Value.none, kwdefaults := Value.none, pyModule := vs "cpy313.netrc" (nat_lit 311), code := .ref (nat_lit 65) } }
noncomputable def ho44 (P : Params) : Obj := { cls := Value.type "tuple", data := Data.seq #[vs "self" (nat_lit 336), vs "ch" (nat_lit 337)] }
noncomputable def ho45 (P : Params) : Obj := { cls := Value.none, data := Data.func { name := Str.ofString "_read_char", qualname := Str.ofString "_netrclex._read_char", params := Mine.sP (Mine.sIn 6 1), body := FuncBody.stmts (Mine.sB (Mine.sIn 6 1)), scope := Mine.sS (Mine.sIn 6 1), globals := 0, closure := [], defaults := Value.none, kwdefaults := Value.none } }
noncomputable def ho46 (P : Params) : Obj := { cls := Value.type "code", data := Data.fields #[vs "_read_char" (nat_lit 333), vs "_netrclex._read_char" (nat_lit 334), vs "/claim/cut.py" (nat_lit 335), vi (nat_lit 39) (nat_lit 0), vi (nat_lit 1) (nat_lit 0), vi (nat_lit 0) (nat_lit 0), vi (nat_lit 0) (nat_lit 0), vi (nat_lit 3) (nat_lit 0), .ref (nat_lit 67), Value.bool Bool.true, vi (nat_lit 276) (nat_lit 0), .ref (nat_lit 68), Value.none, .ref (nat_lit 69), .ref (nat_lit 70), .ref (nat_lit 71), vi (nat_lit 338) (nat_lit 0), vi (nat_lit 39) (nat_lit 0), vs "/claim/cut.py" (nat_lit 339)] }
noncomputable def ho47 (P : Params) : Obj := { cls := Value.type "function", data := Data.func { name := Str.ofString "_read_char", qualname := Str.ofString "_netrclex._read_char", params := Mine.sP (Mine.sIn 6 1), body := FuncBody.stmts (Mine.sB (Mine.sIn 6 1)), scope := Mine.sS (Mine.sIn 6 1), globals := 3, closure := [], defaults := Value.none, kwdefaults := Value.none, pyModule := vs "cpy313.netrc" (nat_lit 311), code := .ref (nat_lit 72) } }
noncomputable def ho48 (P : Params) : Obj := { cls := Value.type "tuple", data := Data.seq #[vs "self" (nat_lit 344), vs "token" (nat_lit 345), vs "fiter" (nat_lit 346), vs "ch" (nat_lit 347)] }
noncomputable def ho49 (P : Params) : Obj := { cls := Value.none, data := Data.func { name := Str.ofString "get_token", qualname := Str.ofString "_netrclex.get_token", params := Mine.sP (Mine.sIn 6 2), body := FuncBody.stmts (Mine.sB (Mine.sIn 6 2)), scope := Mine.sS (Mine.sIn 6 2), globals := 0, closure := [], defaults := Value.none, kwdefaults := Value.none } }
noncomputable def ho50 (P : Params) : Obj := { cls := Value.type "code", data := Data.fields #[vs "get_token" (nat_lit 341), vs "_netrclex.get_token" (nat_lit 342), vs "/claim/cut.py" (nat_lit 343), vi (nat_lit 45) (nat_lit 0), vi (nat_lit 1) (nat_lit 0), vi (nat_lit 0) (nat_lit 0), vi (nat_lit 0) (nat_lit 0), vi (nat_lit 3) (nat_lit 0), .ref (nat_lit 74), Value.bool Bool.true, vi (nat_lit 276) (nat_lit 0), .ref (nat_lit 75), Value.none, .ref (nat_lit 76), .ref (nat_lit 77), .ref (nat_lit 78), vi (nat_lit 348) (nat_lit 0), vi (nat_lit 45) (nat_lit 0), vs "/claim/cut.py" (nat_lit 349)] }
noncomputable def ho51 (P : Params) : Obj := { cls := Value.type "function", data := Data.func { name := Str.ofString "get_token", qualname := Str.ofString "_netrclex.get_token", params := Mine.sP (Mine.sIn 6 2), body := FuncBody.stmts (Mine.sB (Mine.sIn 6 2)), scope := Mine.sS (Mine.sIn 6 2), globals := 3, closure := [], defaults := Value.none, kwdefaults := Value.none, pyModule := vs "cpy313.netrc" (nat_lit 311), code := .ref (nat_lit 79) } }
noncomputable def ho52 (P : Params) : Obj := { cls := Value.type "tuple", data := Data.seq #[vs "self" (nat_lit 354), vs "token" (nat_lit 355)] }
noncomputable def ho53 (P : Params) : Obj := { cls := Value.none, data := Data.func { name := Str.ofString "push_token", qualname := Str.ofString "_netrclex.push_token", params := Mine.sP (Mine.sIn 6 3), body := FuncBody.stmts (Mine.sB (Mine.sIn 6 3)), scope := Mine.sS (Mine.sIn 6 3), globals := 0, closure := [], defaults := Value.none, kwdefaults := Value.none } }
noncomputable def ho54 (P : Params) : Obj := { cls := Value.type "code", data := Data.fields #[vs "push_token" (nat_lit 351), vs "_netrclex.push_token" (nat_lit 352), vs "/claim/cut.py" (nat_lit 353), vi (nat_lit 72) (nat_lit 0), vi (nat_lit 2) (nat_lit 0), vi (nat_lit 0) (nat_lit 0), vi (nat_lit 0) (nat_lit 0), vi (nat_lit 3) (nat_lit 0), .ref (nat_lit 81), Value.bool Bool.true, vi (nat_lit 276) (nat_lit 0), .ref (nat_lit 82), Value.none, .ref (nat_lit 83), .ref (nat_lit 84), .ref (nat_lit 85), vi (nat_lit 356) (nat_lit 0), vi (nat_lit 72) (nat_lit 0), vs "/claim/cut.py" (nat_lit 357)] }
noncomputable def ho55 (P : Params) : Obj := { cls := Value.type "function", data := Data.func { name := Str.ofString "push_token", qualname := Str.ofString "_netrclex.push_token", params := Mine.sP (Mine.sIn 6 3), body := FuncBody.stmts (Mine.sB (Mine.sIn 6 3)), scope := Mine.sS (Mine.sIn 6 3), globals := 3, closure := [], defaults := Value.none, kwdefaults := Value.none, pyModule := vs "cpy313.netrc" (nat_lit 311), code := .ref (nat_lit 86) } }
noncomputable def ho56 (P : Params) : Obj := { cls := Value.type "tuple", data := Data.seq #[vs "instream" (nat_lit 359), vs "lineno" (nat_lit 360), vs "pushback" (nat_lit 361), vs "whitespace" (nat_lit 362)] }
noncomputable def ho57 (P : Params) : Obj := { cls := Value.type "dict", data := Data.dict #[ke P "__module__" (nat_lit 320) (vs "cpy313.netrc" (nat_lit 311)), ke P "__firstlineno__" (nat_lit 324) (vi (nat_lit 31) (nat_lit 323)), ke P "__init__" (nat_lit 332) (.ref (nat_lit 66)), ke P "_read_char" (nat_lit 340) (.ref (nat_lit 73)), ke P "get_token" (nat_lit 350) (.ref (nat_lit 80)), ke P "push_token" (nat_lit 358) (.ref (nat_lit 87)), ke P "__static_attributes__" (nat_lit 363) (.ref (nat_lit 88)), ke P "__dict__" (nat_lit 365) (.ref (nat_lit 91)), ke P "__weakref__" (nat_lit 367) (.ref (nat_lit 92)), ke P "__doc__" (nat_lit 368) (Value.none)] 4 }
noncomputable def ho58 (P : Params) : Obj := { cls := Value.type "type", data := Data.cls { name := Str.ofString "_netrclex", bases := [Value.type "object"], mro := [.ref (nat_lit 90), Value.type "object"], ns := 89, qualname := Str.ofString "_netrclex" }, slots := #[Option.none, Option.none, Option.some (vs "_netrclex" (nat_lit 313)), Option.some (vs "_netrclex" (nat_lit 321)), Option.some (.builtin "object.__new__"), Option.some (Value.bool Bool.true)] }
noncomputable def ho59 (P : Params) : Obj := { cls := Value.type "getset_descriptor", data := Data.fields #[vs "__dict__" (nat_lit 364), .ref (nat_lit 90), .builtin "function.__dict__", .builtin "function.__dict__#set"] }
noncomputable def ho60 (P : Params) : Obj := { cls := Value.type "getset_descriptor", data := Data.fields #[vs "__weakref__" (nat_lit 366), .ref (nat_lit 90), .builtin "ExceptionGroup.__weakref__", Value.none] }
noncomputable def ho61 (P : Params) : Obj := { cls := Value.type "super", data := Data.fields #[.ref (nat_lit 90), .ref (nat_lit 90), .ref (nat_lit 90)] }
noncomputable def ho62 (P : Params) : Obj := { cls := Value.type "builtin_function_or_method", data := Data.fields #[.builtin "object.__init_subclass__", .ref (nat_lit 90)] }
noncomputable def life_c6 : Life := { }
noncomputable def drawn_c6 : Drawn := { }
noncomputable def gens_c6 : Array GenState := #[]
noncomputable def toks_c6 : Nat := 371
noncomputable def tree_c6 (P : Params) : BT := (.node (W.boot_o_0 P) (.node (ho0 P) (.node (ho21 P) (.node (W.boot_o_7 P) (.node (W.boot_o_7 P) (.node (ho20 P) (.node (W.boot_o_7 P) .nil .nil) .nil) (.node (W.boot_o_8 P) (.node (ho50 P) .nil .nil) .nil)) (.node (ho14 P) (.node (W.boot_o_7 P) (.node (ho45 P) .nil .nil) .nil) (.node (ho36 P) (.node (ho55 P) .nil .nil) .nil))) (.node (ho3 P) (.node (ho10 P) (.node (W.boot_o_7 P) (.node (W.boot_o_7 P) .nil .nil) .nil) (.node (ho33 P) (.node (ho52 P) .nil .nil) .nil)) (.node (ho18 P) (.node (ho28 P) (.node (W.boot_o_8 P) .nil .nil) .nil) (.node (ho39 P) (.node (ho59 P) .nil .nil) .nil)))) (.node (W.boot_o_5 P) (.node (W.boot_o_9 P) (.node (ho8 P) (.node (W.boot_o_8 P) (.node (ho42 P) .nil .nil) .nil) (.node (W.boot_o_7 P) (.node (W.boot_o_7 P) .nil .nil) .nil)) (.node (ho16 P) (.node (ho27 P) (.node (ho47 P) .nil .nil) .nil) (.node (ho37 P) (.node (ho57 P) .nil .nil) .nil))) (.node (ho5 P) (.node (ho12 P) (.node (ho25 P) (.node (ho44 P) .nil .nil) .nil) (.node (W.boot_o_7 P) (.node (ho53 P) .nil .nil) .nil)) (.node (ho22 P) (.node (ho30 P) (.node (W.boot_o_7 P) .nil .nil) .nil) (.node (W.boot_o_8 P) (.node (ho61 P) .nil .nil) .nil))))) (.node (ho1 P) (.node (W.boot_o_4 P) (.node (W.boot_o_8 P) (.node (ho7 P) (.node (W.boot_o_7 P) (.node (ho41 P) .nil .nil) .nil) (.node (ho31 P) (.node (ho51 P) .nil .nil) .nil)) (.node (ho15 P) (.node (W.boot_o_8 P) (.node (ho46 P) .nil .nil) .nil) (.node (W.boot_o_7 P) (.node (ho56 P) .nil .nil) .nil))) (.node (ho4 P) (.node (ho11 P) (.node (ho24 P) (.node (W.boot_o_8 P) .nil .nil) .nil) (.node (ho34 P) (.node (W.boot_o_7 P) .nil .nil) .nil)) (.node (W.boot_o_7 P) (.node (ho29 P) (.node (ho48 P) .nil .nil) .nil) (.node (W.boot_o_7 P) (.node (ho60 P) .nil .nil) .nil)))) (.node (W.boot_o_6 P) (.node (W.boot_o_10 P) (.node (ho9 P) (.node (ho23 P) (.node (ho43 P) .nil .nil) .nil) (.node (ho32 P) (.node (W.boot_o_8 P) .nil .nil) .nil)) (.node (ho17 P) (.node (W.boot_o_7 P) (.node (W.boot_o_7 P) .nil .nil) .nil) (.node (ho38 P) (.node (ho58 P) .nil .nil) .nil))) (.node (ho6 P) (.node (ho13 P) (.node (ho26 P) (.node (W.boot_o_7 P) .nil .nil) .nil) (.node (ho35 P) (.node (ho54 P) .nil .nil) .nil)) (.node (ho19 P) (.node (W.boot_o_7 P) (.node (ho49 P) .nil .nil) .nil) (.node (ho40 P) (.node (ho62 P) .nil .nil) .nil))))))
noncomputable def ho64 (P : Params) : Obj := { cls := Value.type "dict", data := Data.dict #[ke P "__name__" (nat_lit 165) (vs "cpy313.wsgiref.headers" (nat_lit 371)), ke P "__doc__" (nat_lit 166) (Value.none), ke P "__package__" (nat_lit 167) (Value.none), ke P "__loader__" (nat_lit 168) (.builtin "__main__.__loader__#opaque"), ke P "__spec__" (nat_lit 169) (Value.none), ke P "__annotations__" (nat_lit 170) (.ref (nat_lit 6)), ke P "__builtins__" (nat_lit 171) (.ref (nat_lit 4)), ke P "__file__" (nat_lit 173) (vs "/claim/cut.py" (nat_lit 172)), ke P "__cached__" (nat_lit 174) (Value.none), ke P "_sre" (nat_lit 275) (.ref (nat_lit 12)), ke P "_wall" (nat_lit 288) (.ref (nat_lit 38)), ke P "CHAR_MAX" (nat_lit 292) (vi (nat_lit 127) (nat_lit 291)), ke P "_grouping_intervals" (nat_lit 301) (.ref (nat_lit 45)), ke P "_build_localename" (nat_lit 310) (.ref (nat_lit 52)), ke P "_netrclex" (nat_lit 370) (.ref (nat_lit 90)), ke P "_name_disallowed_re" (nat_lit 398) (.ref (nat_lit 99)), ke P "_value_disallowed_re" (nat_lit 432) (.ref (nat_lit 104))] 17 }
noncomputable def ho65 (P : Params) : Obj := { cls := Value.type "list", data := Data.seq #[vi (nat_lit 14) (nat_lit 376), vi (nat_lit 10) (nat_lit 377), vi (nat_lit 4) (nat_lit 378), vi (nat_lit 1) (nat_lit 379), vi (nat_lit 1) (nat_lit 380), vi (nat_lit 22) (nat_lit 381), vi (nat_lit 0) (nat_lit 382), vi (nat_lit 31) (nat_lit 383), vi (nat_lit 16) (nat_lit 384), vi (nat_lit 127) (nat_lit 385), vi (nat_lit 0) (nat_lit 386), vi (nat_lit 13) (nat_lit 387), vi (nat_lit 7) (nat_lit 388), vi (nat_lit 22) (nat_lit 389), vi (nat_lit 0) (nat_lit 390), vi (nat_lit 31) (nat_lit 391), vi (nat_lit 16) (nat_lit 392), vi (nat_lit 127) (nat_lit 393), vi (nat_lit 0) (nat_lit 394), vi (nat_lit 1) (nat_lit 395)] }
noncomputable def ho66 (P : Params) : Obj := { cls := Value.type "tuple", data := Data.seq #[Value.none] }
noncomputable def ho67 (P : Params) : Obj := { cls := Value.type "tuple", data := Data.seq #[vi (nat_lit 14) (nat_lit 0), vi (nat_lit 10) (nat_lit 0), vi (nat_lit 4) (nat_lit 0), vi (nat_lit 1) (nat_lit 0), vi (nat_lit 1) (nat_lit 0), vi (nat_lit 22) (nat_lit 0), vi (nat_lit 0) (nat_lit 0), vi (nat_lit 31) (nat_lit 0), vi (nat_lit 16) (nat_lit 0), vi (nat_lit 127) (nat_lit 0), vi (nat_lit 0) (nat_lit 0), vi (nat_lit 13) (nat_lit 0), vi (nat_lit 7) (nat_lit 0), vi (nat_lit 22) (nat_lit 0), vi (nat_lit 0) (nat_lit 0), vi (nat_lit 31) (nat_lit 0), vi (nat_lit 16) (nat_lit 0), vi (nat_lit 127) (nat_lit 0), vi (nat_lit 0) (nat_lit 0), vi (nat_lit 1) (nat_lit 0)] }
noncomputable def ho68 (P : Params) : Obj := { cls := Value.type "re.Pattern", data := Data.fields #[vs "[\\x00-\\x1F\\x7F]" (nat_lit 374), vi (nat_lit 32) (nat_lit 397), vi (nat_lit 0) (nat_lit 0), Value.none, Value.none, .ref (nat_lit 98), vi (nat_lit 0) (nat_lit 0)] }
noncomputable def ho69 (P : Params) : Obj := { cls := Value.type "list", data := Data.seq #[vi (nat_lit 14) (nat_lit 402), vi (nat_lit 14) (nat_lit 403), vi (nat_lit 4) (nat_lit 404), vi (nat_lit 1) (nat_lit 405), vi (nat_lit 1) (nat_lit 406), vi (nat_lit 9) (nat_lit 407), vi (nat_lit 4294966783) (nat_lit 408), vi (nat_lit 0) (nat_lit 409), vi (nat_lit 0) (nat_lit 410), vi (nat_lit 2147483648) (nat_lit 411), vi (nat_lit 0) (nat_lit 412), vi (nat_lit 0) (nat_lit 413), vi (nat_lit 0) (nat_lit 414), vi (nat_lit 0) (nat_lit 415), vi (nat_lit 0) (nat_lit 416), vi (nat_lit 13) (nat_lit 417), vi (nat_lit 11) (nat_lit 418), vi (nat_lit 9) (nat_lit 419), vi (nat_lit 4294966783) (nat_lit 420), vi (nat_lit 0) (nat_lit 421), vi (nat_lit 0) (nat_lit 422), vi (nat_lit 2147483648) (nat_lit 423), vi (nat_lit 0) (nat_lit 424), vi (nat_lit 0) (nat_lit 425), vi (nat_lit 0) (nat_lit 426), vi (nat_lit 0) (nat_lit 427), vi (nat_lit 0) (nat_lit 428), vi (nat_lit 1) (nat_lit 429)] }
noncomputable def ho70 (P : Params) : Obj := { cls := Value.type "tuple", data := Data.seq #[vi (nat_lit 14) (nat_lit 0), vi (nat_lit 14) (nat_lit 0), vi (nat_lit 4) (nat_lit 0), vi (nat_lit 1) (nat_lit 0), vi (nat_lit 1) (nat_lit 0), vi (nat_lit 9) (nat_lit 0), vi (nat_lit 4294966783) (nat_lit 0), vi (nat_lit 0) (nat_lit 0), vi (nat_lit 0) (nat_lit 0), vi (nat_lit 2147483648) (nat_lit 0), vi (nat_lit 0) (nat_lit 0), vi (nat_lit 0) (nat_lit 0), vi (nat_lit 0) (nat_lit 0), vi (nat_lit 0) (nat_lit 0), vi (nat_lit 0) (nat_lit 0), vi (nat_lit 13) (nat_lit 0), vi (nat_lit 11) (nat_lit 0), vi (nat_lit 9) (nat_lit 0), vi (nat_lit 4294966783) (nat_lit 0), vi (nat_lit 0) (nat_lit 0), vi (nat_lit 0) (nat_lit 0), vi (nat_lit 2147483648) (nat_lit 0), vi (nat_lit 0) (nat_lit 0), vi (nat_lit 0) (nat_lit 0), vi (nat_lit 0) (nat_lit 0), vi (nat_lit 0) (nat_lit 0), vi (nat_lit 0) (nat_lit 0), vi (nat_lit 1) (nat_lit 0)] }
noncomputable def ho71 (P : Params) : Obj := { cls := Value.type "re.Pattern", data := Data.fields #[vs "[\\x00-\\x08\\x0A-\\x1F\\x7F]" (nat_lit 400), vi (nat_lit 32) (nat_lit 431), vi (nat_lit 0) (nat_lit 0), Value.none, Value.none, .ref (nat_lit 103), vi (nat_lit 0) (nat_lit 0)] }
noncomputable def life_c9 : Life := { }
noncomputable def drawn_c9 : Drawn := { }
noncomputable def gens_c9 : Array GenState := #[]
noncomputable def toks_c9 : Nat := 433
noncomputable def tree_c9 (P : Params) : BT := (.node (W.boot_o_0 P) (.node (ho0 P) (.node (ho64 P) (.node (W.boot_o_7 P) (.node (W.boot_o_7 P) (.node (ho20 P) (.node (W.boot_o_7 P) .nil .nil) (.node (ho65 P) .nil .nil)) (.node (W.boot_o_8 P) (.node (ho50 P) .nil .nil) .nil)) (.node (ho14 P) (.node (W.boot_o_7 P) (.node (ho45 P) .nil .nil) (.node (ho70 P) .nil .nil)) (.node (ho36 P) (.node (ho55 P) .nil .nil) .nil))) (.node (ho3 P) (.node (ho10 P) (.node (W.boot_o_7 P) (.node (W.boot_o_7 P) .nil .nil) (.node (ho68 P) .nil .nil)) (.node (ho33 P) (.node (ho52 P) .nil .nil) .nil)) (.node (ho18 P) (.node (ho28 P) (.node (W.boot_o_8 P) .nil .nil) .nil) (.node (ho39 P) (.node (ho59 P) .nil .nil) .nil)))) (.node (W.boot_o_5 P) (.node (W.boot_o_9 P) (.node (ho8 P) (.node (W.boot_o_8 P) (.node (ho42 P) .nil .nil) (.node (ho66 P) .nil .nil)) (.node (W.boot_o_7 P) (.node (W.boot_o_7 P) .nil .nil) .nil)) (.node (ho16 P) (.node (ho27 P) (.node (ho47 P) .nil .nil) .nil) (.node (ho37 P) (.node (ho57 P) .nil .nil) .nil))) (.node (ho5 P) (.node (ho12 P) (.node (ho25 P) (.node (ho44 P) .nil .nil) (.node (W.boot_o_6 P) .nil .nil)) (.node (W.boot_o_7 P) (.node (ho53 P) .nil .nil) .nil)) (.node (ho22 P) (.node (ho30 P) (.node (W.boot_o_7 P) .nil .nil) .nil) (.node (W.boot_o_8 P) (.node (ho61 P) .nil .nil) .nil))))) (.node (ho1 P) (.node (W.boot_o_4 P) (.node (W.boot_o_8 P) (.node (ho7 P) (.node (W.boot_o_7 P) (.node (ho41 P) .nil .nil) (.node (W.boot_o_6 P) .nil .nil)) (.node (ho31 P) (.node (ho51 P) .nil .nil) .nil)) (.node (ho15 P) (.node (W.boot_o_8 P) (.node (ho46 P) .nil .nil) (.node (ho71 P) .nil .nil)) (.node (W.boot_o_7 P) (.node (ho56 P) .nil .nil) .nil))) (.node (ho4 P) (.node (ho11 P) (.node (ho24 P) (.node (W.boot_o_8 P) .nil .nil) (.node (ho69 P) .nil .nil)) (.node (ho34 P) (.node (W.boot_o_7 P) .nil .nil) .nil)) (.node (W.boot_o_7 P) (.node (ho29 P) (.node (ho48 P) .nil .nil) .nil) (.node (W.boot_o_7 P) (.node (ho60 P) .nil .nil) .nil)))) (.node (W.boot_o_6 P) (.node (W.boot_o_10 P) (.node (ho9 P) (.node (ho23 P) (.node (ho43 P) .nil .nil) (.node (ho67 P) .nil .nil)) (.node (ho32 P) (.node (W.boot_o_8 P) .nil .nil) .nil)) (.node (ho17 P) (.node (W.boot_o_7 P) (.node (W.boot_o_7 P) .nil .nil) .nil) (.node (ho38 P) (.node (ho58 P) .nil .nil) .nil))) (.node (ho6 P) (.node (ho13 P) (.node (ho26 P) (.node (W.boot_o_7 P) .nil .nil) (.node (ho66 P) .nil .nil)) (.node (ho35 P) (.node (ho54 P) .nil .nil) .nil)) (.node (ho19 P) (.node (W.boot_o_7 P) (.node (ho49 P) .nil .nil) .nil) (.node (ho40 P) (.node (ho62 P) .nil .nil) .nil))))))
noncomputable def ho72 (P : Params) : Obj := { cls := Value.type "dict", data := Data.dict #[ke P "__name__" (nat_lit 165) (vs "cpy313.wsgiref.headers" (nat_lit 371)), ke P "__doc__" (nat_lit 166) (Value.none), ke P "__package__" (nat_lit 167) (Value.none), ke P "__loader__" (nat_lit 168) (.builtin "__main__.__loader__#opaque"), ke P "__spec__" (nat_lit 169) (Value.none), ke P "__annotations__" (nat_lit 170) (.ref (nat_lit 6)), ke P "__builtins__" (nat_lit 171) (.ref (nat_lit 4)), ke P "__file__" (nat_lit 173) (vs "/claim/cut.py" (nat_lit 172)), ke P "__cached__" (nat_lit 174) (Value.none), ke P "_sre" (nat_lit 275) (.ref (nat_lit 12)), ke P "_wall" (nat_lit 288) (.ref (nat_lit 38)), ke P "CHAR_MAX" (nat_lit 292) (vi (nat_lit 127) (nat_lit 291)), ke P "_grouping_intervals" (nat_lit 301) (.ref (nat_lit 45)), ke P "_build_localename" (nat_lit 310) (.ref (nat_lit 52)), ke P "_netrclex" (nat_lit 370) (.ref (nat_lit 90)), ke P "_name_disallowed_re" (nat_lit 398) (.ref (nat_lit 99)), ke P "_value_disallowed_re" (nat_lit 432) (.ref (nat_lit 104)), ke P "Headers" (nat_lit 589) (.ref (nat_lit 227))] 18 }
noncomputable def ho73 (P : Params) : Obj := { cls := Value.none, data := Data.fields #[vi (nat_lit 2) (nat_lit 0), vi (nat_lit 0) (nat_lit 0), .ref (nat_lit 37), vi (nat_lit 7) (nat_lit 0), vi (nat_lit 0) (nat_lit 0), .ref (nat_lit 44), vi (nat_lit 19) (nat_lit 0), vi (nat_lit 0) (nat_lit 0), .ref (nat_lit 51), vi (nat_lit 31) (nat_lit 0), vi (nat_lit 0) (nat_lit 0), .ref (nat_lit 58), vi (nat_lit 77) (nat_lit 0), vi (nat_lit 0) (nat_lit 0), .ref (nat_lit 110)] }
noncomputable def ho74 (P : Params) : Obj := { cls := Value.type "dict", data := Data.dict #[ke P "__module__" (nat_lit 440) (vs "cpy313.wsgiref.headers" (nat_lit 371)), ke P "__qualname__" (nat_lit 442) (vs "Headers" (nat_lit 441)), ke P "__firstlineno__" (nat_lit 444) (vi (nat_lit 77) (nat_lit 443)), ke P "__init__" (nat_lit 454) (.ref (nat_lit 119)), ke P "_convert_string_type" (nat_lit 464) (.ref (nat_lit 126)), ke P "__len__" (nat_lit 471) (.ref (nat_lit 133)), ke P "__setitem__" (nat_lit 480) (.ref (nat_lit 140)), ke P "__delitem__" (nat_lit 486) (.ref (nat_lit 145)), ke P "__getitem__" (nat_lit 494) (.ref (nat_lit 152)), ke P "__contains__" (nat_lit 502) (.ref (nat_lit 159)), ke P "get_all" (nat_lit 510) (.ref (nat_lit 166)), ke P "get" (nat_lit 521) (.ref (nat_lit 174)), ke P "keys" (nat_lit 527) (.ref (nat_lit 179)), ke P "values" (nat_lit 533) (.ref (nat_lit 184)), ke P "items" (nat_lit 540) (.ref (nat_lit 191)), ke P "__repr__" (nat_lit 547) (.ref (nat_lit 198)), ke P "__str__" (nat_lit 553) (.ref (nat_lit 203)), ke P "__bytes__" (nat_lit 560) (.ref (nat_lit 210)), ke P "setdefault" (nat_lit 570) (.ref (nat_lit 217)), ke P "add_header" (nat_lit 580) (.ref (nat_lit 224)), ke P "__static_attributes__" (nat_lit 582) (.ref (nat_lit 225))] 21 }
noncomputable def ho75 (P : Params) : Obj := { cls := Value.none, data := Data.fields #[vi (nat_lit 79) (nat_lit 0), vi (nat_lit 4) (nat_lit 0), .ref (nat_lit 118), vi (nat_lit 89) (nat_lit 0), vi (nat_lit 4) (nat_lit 0), .ref (nat_lit 125), vi (nat_lit 97) (nat_lit 0), vi (nat_lit 4) (nat_lit 0), .ref (nat_lit 132), vi (nat_lit 100) (nat_lit 0), vi (nat_lit 4) (nat_lit 0), .ref (nat_lit 139), vi (nat_lit 104) (nat_lit 0), vi (nat_lit 4) (nat_lit 0), .ref (nat_lit 144), vi (nat_lit 108) (nat_lit 0), vi (nat_lit 4) (nat_lit 0), .ref (nat_lit 151), vi (nat_lit 111) (nat_lit 0), vi (nat_lit 4) (nat_lit 0), .ref (nat_lit 158), vi (nat_lit 114) (nat_lit 0), vi (nat_lit 4) (nat_lit 0), .ref (nat_lit 165), vi (nat_lit 117) (nat_lit 0), vi (nat_lit 4) (nat_lit 0), .ref (nat_lit 173), vi (nat_lit 124) (nat_lit 0), vi (nat_lit 4) (nat_lit 0), .ref (nat_lit 178), vi (nat_lit 127) (nat_lit 0), vi (nat_lit 4) (nat_lit 0), .ref (nat_lit 183), vi (nat_lit 130) (nat_lit 0), vi (nat_lit 4) (nat_lit 0), .ref (nat_lit 190), vi (nat_lit 133) (nat_lit 0), vi (nat_lit 4) (nat_lit 0), .ref (nat_lit 197), vi (nat_lit 136) (nat_lit 0), vi (nat_lit 4) (nat_lit 0), .ref (nat_lit 202), vi (nat_lit 139) (nat_lit 0), vi (nat_lit 4) (nat_lit 0), .ref (nat_lit 209), vi (nat_lit 142) (nat_lit 0), vi (nat_lit 4) (nat_lit 0), .ref (nat_lit 216), vi (nat_lit 150) (nat_lit 0), vi (nat_lit 4) (nat_lit 0), .ref (nat_lit 223)] }
noncomputable def ho76 (P : Params) : Obj := { cls := Value.type "code", data := Data.fields #[vs "Headers" (nat_lit 435), vs "Headers" (nat_lit 436), vs "/claim/cut.py" (nat_lit 437), vi (nat_lit 77) (nat_lit 0), vi (nat_lit 0) (nat_lit 0), vi (nat_lit 0) (nat_lit 0), vi (nat_lit 0) (nat_lit 0), vi (nat_lit 0) (nat_lit 0), .ref (nat_lit 108), Value.bool Bool.false, vi (nat_lit 276) (nat_lit 0), .ref (nat_lit 109), Value.none, Value.none, Value.none, Value.none, vi (nat_lit 438) (nat_lit 0), vi (nat_lit 77) (nat_lit 0), vs "/claim/cut.py" (nat_lit 439)] }
noncomputable def ho77 (P : Params) : Obj := { cls := Value.type "frame", slots := #[Option.some (.ref (nat_lit 110)), Option.some (.ref (nat_lit 3)), Option.some (.ref (nat_lit 107)), Option.none, Option.some (vs "cpy313.wsgiref.headers" (nat_lit 371)), Option.none, Option.some (.ref (nat_lit 0))] }
noncomputable def ho78 (P : Params) : Obj := { cls := Value.type "tuple", data := Data.seq #[vs "self" (nat_lit 448), vs "headers" (nat_lit 449), vs "k" (nat_lit 450), vs "v" (nat_lit 451)] }
noncomputable def ho79 (P : Params) : Obj := { cls := Value.none, data := Data.func { name := Str.ofString "__init__", qualname := Str.ofString "Headers.__init__", params := Mine.sP (Mine.sIn 10 0), body := FuncBody.stmts (Mine.sB (Mine.sIn 10 0)), scope := Mine.sS (Mine.sIn 10 0), globals := 0, closure := [], defaults := Value.none, kwdefaults := Value.none } }
noncomputable def ho80 (P : Params) : Obj := { cls := Value.type "code", data := Data.fields #[vs "__init__" (nat_lit 445), vs "Headers.__init__" (nat_lit 446), vs "/claim/cut.py" (nat_lit 447), vi (nat_lit 79) (nat_lit 0), vi (nat_lit 2) (nat_lit 0), vi (nat_lit 0) (nat_lit 0), vi (nat_lit 0) (nat_lit 0), vi (nat_lit 3) (nat_lit 0), .ref (nat_lit 113), Value.bool Bool.true, vi (nat_lit 276) (nat_lit 0), .ref (nat_lit 114), Value.none, .ref (nat_lit 115), .ref (nat_lit 116), .ref (nat_lit 117), vi (nat_lit 452) (nat_lit 0), vi (nat_lit 79) (nat_lit 0), vs "/claim/cut.py" (nat_lit 453)] }
noncomputable def ho81 (P : Params) : Obj := { cls := Value.type "function", data := Data.func { name := Str.ofString "__init__", qualname := Str.ofString "Headers.__init__", params := Mine.sP (Mine.sIn 10 0), body := FuncBody.stmts (Mine.sB (Mine.sIn 10 0)), scope := Mine.sS (Mine.sIn 10 0), globals := 3, closure := [], defaults := .ref (nat_lit 112), kwdefaults := Value.none, pyModule := vs "cpy313.wsgiref.headers" (nat_lit 371), code := .ref (nat_lit 118) } }
noncomputable def ho82 (P : Params) : Obj := { cls := Value.type "tuple", data := Data.seq #[vs "self" (nat_lit 458), vs "value" (nat_lit 459), vs "name" (nat_lit 460), vs "regex" (nat_lit 461)] }
noncomputable def ho83 (P : Params) : Obj := { cls := Value.none, data := Data.func { name := Str.ofString "_convert_string_type", qualname := Str.ofString "Headers._convert_string_type", params := Mine.sP (Mine.sIn 10 1), body := FuncBody.stmts (Mine.sB (Mine.sIn 10 1)), scope := Mine.sS (Mine.sIn 10 1), globals := 0, closure := [], defaults := Value.none, kwdefaults := Value.none } }
noncomputable def ho84 (P : Params) : Obj := { cls := Value.type "code", data := Data.fields #[vs "_convert_string_type" (nat_lit 455), vs "Headers._convert_string_type" (nat_lit 456), vs "/claim/cut.py" (nat_lit 457), vi (nat_lit 89) (nat_lit 0), vi (nat_lit 2) (nat_lit 0), vi (nat_lit 0) (nat_lit 0), vi (nat_lit 1) (nat_lit 0), vi (nat_lit 3) (nat_lit 0), .ref (nat_lit 120), Value.bool Bool.true, vi (nat_lit 276) (nat_lit 0), .ref (nat_lit 121), Value.none, .ref (nat_lit 122), .ref (nat_lit 123), .ref (nat_lit 124), vi (nat_lit 462) (nat_lit 0), vi (nat_lit 89) (nat_lit 0), vs "/claim/cut.py" (nat_lit 463)] }
noncomputable def ho85 (P : Params) : Obj := { cls := Value.type "function", data := Data.func { name := Str.ofString "_convert_string_type", qualname := Str.ofString "Headers._convert_string_type", params := Mine.sP (Mine.sIn 10 1), body := FuncBody.stmts (Mine.sB (Mine.sIn 10 1)), scope := Mine.sS (Mine.sIn 10 1), globals := 3, closure := [], defaults := Value.none, kwdefaults := Value.none, pyModule := vs "cpy313.wsgiref.headers" (nat_lit 371), code := .ref (nat_lit 125) } }
noncomputable def ho86 (P : Params) : Obj := { cls := Value.type "tuple", data := Data.seq #[vs "self" (nat_lit 468)] }
noncomputable def ho87 (P : Params) : Obj := { cls := Value.none, data := Data.func { name := Str.ofString "__len__", qualname := Str.ofString "Headers.__len__", params := Mine.sP (Mine.sIn 10 2), body := FuncBody.stmts (Mine.sB (Mine.sIn 10 2)), scope := Mine.sS (Mine.sIn 10 2), globals := 0, closure := [], defaults := Value.none, kwdefaults := Value.none } }
noncomputable def ho88 (P : Params) : Obj := { cls := Value.type "code", data := Data.fields #[vs "__len__" (nat_lit 465), vs "Headers.__len__" (nat_lit 466), vs "/claim/cut.py" (nat_lit 467), vi (nat_lit 97) (nat_lit 0), vi (nat_lit 1) (nat_lit 0), vi (nat_lit 0) (nat_lit 0), vi (nat_lit 0) (nat_lit 0), vi (nat_lit 3) (nat_lit 0), .ref (nat_lit 127), Value.bool Bool.true, vi (nat_lit 276) (nat_lit 0), .ref (nat_lit 128), Value.none, .ref (nat_lit 129), .ref (nat_lit 130), .ref (nat_lit 131), vi (nat_lit 469) (nat_lit 0), vi (nat_lit 97) (nat_lit 0), vs "/claim/cut.py" (nat_lit 470)] }
noncomputable def ho89 (P : Params) : Obj := { cls := Value.type "function", data := Data.func { name := Str.ofString "__len__", qualname := Str.ofString "Headers.__len__", params := Mine.sP (Mine.sIn 10 2), body := FuncBody.stmts (Mine.sB (Mine.sIn 10 2)), scope := Mine.sS (Mine.sIn 10 2), globals := 3, closure := [], defaults := Value.none, kwdefaults := Value.none, pyModule := vs "cpy313.wsgiref.headers" (nat_lit 371), code := .ref (nat_lit 132) } }
noncomputable def ho90 (P : Params) : Obj := { cls := Value.type "tuple", data := Data.seq #[vs "self" (nat_lit 475), vs "name" (nat_lit 476), vs "val" (nat_lit 477)] }
noncomputable def ho91 (P : Params) : Obj := { cls := Value.none, data := Data.func { name := Str.ofString "__setitem__", qualname := Str.ofString "Headers.__setitem__", params := Mine.sP (Mine.sIn 10 3), body := FuncBody.stmts (Mine.sB (Mine.sIn 10 3)), scope := Mine.sS (Mine.sIn 10 3), globals := 0, closure := [], defaults := Value.none, kwdefaults := Value.none } }
noncomputable def ho92 (P : Params) : Obj := { cls := Value.type "code", data := Data.fields #[vs "__setitem__" (nat_lit 472), vs "Headers.__setitem__" (nat_lit 473), vs "/claim/cut.py" (nat_lit 474), vi (nat_lit 100) (nat_lit 0), vi (nat_lit 3) (nat_lit 0), vi (nat_lit 0) (nat_lit 0), vi (nat_lit 0) (nat_lit 0), vi (nat_lit 3) (nat_lit 0), .ref (nat_lit 134), Value.bool Bool.true, vi (nat_lit 276) (nat_lit 0), .ref (nat_lit 135), Value.none, .ref (nat_lit 136), .ref (nat_lit 137), .ref (nat_lit 138), vi (nat_lit 478) (nat_lit 0), vi (nat_lit 100) (nat_lit 0), vs "/claim/cut.py" (nat_lit 479)] }
noncomputable def ho93 (P : Params) : Obj := { cls := Value.type "function", data := Data.func { name := Str.ofString "__setitem__", qualname := Str.ofString "Headers.__setitem__", params := Mine.sP (Mine.sIn 10 3), body := FuncBody.stmts (Mine.sB (Mine.sIn 10 3)), scope := Mine.sS (Mine.sIn 10 3), globals := 3, closure := [], defaults := Value.none, kwdefaults := Value.none, pyModule := vs "cpy313.wsgiref.headers" (nat_lit 371), code := .ref (nat_lit 139) } }
noncomputable def ho94 (P : Params) : Obj := { cls := Value.none, data := Data.func { name := Str.ofString "__delitem__", qualname := Str.ofString "Headers.__delitem__", params := Mine.sP (Mine.sIn 10 4), body := FuncBody.stmts (Mine.sB (Mine.sIn 10 4)), scope := Mine.sS (Mine.sIn 10 4), globals := 0, closure := [], defaults := Value.none, kwdefaults := Value.none } }
noncomputable def ho95 (P : Params) : Obj := { cls := Value.type "code", data := Data.fields #[vs "__delitem__" (nat_lit 481), vs "Headers.__delitem__" (nat_lit 482), vs "/claim/cut.py" (nat_lit 483), vi (nat_lit 104) (nat_lit 0), vi (nat_lit 2) (nat_lit 0), vi (nat_lit 0) (nat_lit 0), vi (nat_lit 0) (nat_lit 0), vi (nat_lit 3) (nat_lit 0), .ref (nat_lit 141), Value.bool Bool.true, vi (nat_lit 276) (nat_lit 0), .ref (nat_lit 142), Value.none, Value.none, Value.none, .ref (nat_lit 143), vi (nat_lit 484) (nat_lit 0), vi (nat_lit 104) (nat_lit 0), vs "/claim/cut.py" (nat_lit 485)] }
noncomputable def ho96 (P : Params) : Obj := { cls := Value.type "function", data := Data.func { name := Str.ofString "__delitem__", qualname := Str.ofString "Headers.__delitem__", params := Mine.sP (Mine.sIn 10 4), body := FuncBody.stmts (Mine.sB (Mine.sIn 10 4)), scope := Mine.sS (Mine.sIn 10 4), globals := 3, closure := [], defaults := Value.none, kwdefaults := Value.none, pyModule := vs "cpy313.wsgiref.headers" (nat_lit 371), code := .ref (nat_lit 144) } }
noncomputable def ho97 (P : Params) : Obj := { cls := Value.type "tuple", data := Data.seq #[vs "self" (nat_lit 490), vs "name" (nat_lit 491)] }
noncomputable def ho98 (P : Params) : Obj := { cls := Value.none, data := Data.func { name := Str.ofString "__getitem__", qualname := Str.ofString "Headers.__getitem__", params := Mine.sP (Mine.sIn 10 5), body := FuncBody.stmts (Mine.sB (Mine.sIn 10 5)), scope := Mine.sS (Mine.sIn 10 6), globals := 0, closure := [], defaults := Value.none, kwdefaults := Value.none } }
noncomputable def ho99 (P : Params) : Obj := { cls := Value.type "code", data := Data.fields #[vs "__getitem__" (nat_lit 487), vs "Headers.__getitem__" (nat_lit 488), vs "/claim/cut.py" (nat_lit 489), vi (nat_lit 108) (nat_lit 0), vi (nat_lit 2) (nat_lit 0), vi (nat_lit 0) (nat_lit 0), vi (nat_lit 0) (nat_lit 0), vi (nat_lit 3) (nat_lit 0), .ref (nat_lit 146), Value.bool Bool.true, vi (nat_lit 276) (nat_lit 0), .ref (nat_lit 147), Value.none, .ref (nat_lit 148), .ref (nat_lit 149), .ref (nat_lit 150), vi (nat_lit 492) (nat_lit 0), vi (nat_lit 108) (nat_lit 0), vs "/claim/cut.py" (nat_lit 493)] }
noncomputable def ho100 (P : Params) : Obj := { cls := Value.type "function", data := Data.func { name := Str.ofString "__getitem__", qualname := Str.ofString "Headers.__getitem__", params := Mine.sP (Mine.sIn 10 5), body := FuncBody.stmts (Mine.sB (Mine.sIn 10 5)), scope := Mine.sS (Mine.sIn 10 6), globals := 3, closure := [], defaults := Value.none, kwdefaults := Value.none, pyModule := vs "cpy313.wsgiref.headers" (nat_lit 371), code := .ref (nat_lit 151) } }
noncomputable def ho101 (P : Params) : Obj := { cls := Value.type "tuple", data := Data.seq #[vs "self" (nat_lit 498), vs "name" (nat_lit 499)] }
noncomputable def ho102 (P : Params) : Obj := { cls := Value.none, data := Data.func { name := Str.ofString "__contains__", qualname := Str.ofString "Headers.__contains__", params := Mine.sP (Mine.sIn 10 6), body := FuncBody.stmts (Mine.sB (Mine.sIn 10 6)), scope := Mine.sS (Mine.sIn 10 6), globals := 0, closure := [], defaults := Value.none, kwdefaults := Value.none } }
noncomputable def ho103 (P : Params) : Obj := { cls := Value.type "code", data := Data.fields #[vs "__contains__" (nat_lit 495), vs "Headers.__contains__" (nat_lit 496), vs "/claim/cut.py" (nat_lit 497), vi (nat_lit 111) (nat_lit 0), vi (nat_lit 2) (nat_lit 0), vi (nat_lit 0) (nat_lit 0), vi (nat_lit 0) (nat_lit 0), vi (nat_lit 3) (nat_lit 0), .ref (nat_lit 153), Value.bool Bool.true, vi (nat_lit 276) (nat_lit 0), .ref (nat_lit 154), Value.none, .ref (nat_lit 155), .ref (nat_lit 156), .ref (nat_lit 157), vi (nat_lit 500) (nat_lit 0), vi (nat_lit 111) (nat_lit 0), vs "/claim/cut.py" (nat_lit 501)] }
noncomputable def ho104 (P : Params) : Obj := { cls := Value.type "function", data := Data.func { name := Str.ofString "__contains__", qualname := Str.ofString "Headers.__contains__", params := Mine.sP (Mine.sIn 10 6), body := FuncBody.stmts (Mine.sB (Mine.sIn 10 6)), scope := Mine.sS (Mine.sIn 10 6), globals := 3, closure := [], defaults := Value.none, kwdefaults := Value.none, pyModule := vs "cpy313.wsgiref.headers" (nat_lit 371), code := .ref (nat_lit 158) } }
noncomputable def ho105 (P : Params) : Obj := { cls := Value.type "tuple", data := Data.seq #[vs "self" (nat_lit 506), vs "name" (nat_lit 507)] }
noncomputable def ho106 (P : Params) : Obj := { cls := Value.none, data := Data.func { name := Str.ofString "get_all", qualname := Str.ofString "Headers.get_all", params := Mine.sP (Mine.sIn 10 7), body := FuncBody.stmts (Mine.sB (Mine.sIn 10 7)), scope := Mine.sS (Mine.sIn 10 7), globals := 0, closure := [], defaults := Value.none, kwdefaults := Value.none } }
noncomputable def ho107 (P : Params) : Obj := { cls := Value.type "code", data := Data.fields #[vs "get_all" (nat_lit 503), vs "Headers.get_all" (nat_lit 504), vs "/claim/cut.py" (nat_lit 505), vi (nat_lit 114) (nat_lit 0), vi (nat_lit 2) (nat_lit 0), vi (nat_lit 0) (nat_lit 0), vi (nat_lit 0) (nat_lit 0), vi (nat_lit 3) (nat_lit 0), .ref (nat_lit 160), Value.bool Bool.true, vi (nat_lit 276) (nat_lit 0), .ref (nat_lit 161), Value.none, .ref (nat_lit 162), .ref (nat_lit 163), .ref (nat_lit 164), vi (nat_lit 508) (nat_lit 0), vi (nat_lit 114) (nat_lit 0), vs "/claim/cut.py" (nat_lit 509)] }
noncomputable def ho108 (P : Params) : Obj := { cls := Value.type "function", data := Data.func { name := Str.ofString "get_all", qualname := Str.ofString "Headers.get_all", params := Mine.sP (Mine.sIn 10 7), body := FuncBody.stmts (Mine.sB (Mine.sIn 10 7)), scope := Mine.sS (Mine.sIn 10 7), globals := 3, closure := [], defaults := Value.none, kwdefaults := Value.none, pyModule := vs "cpy313.wsgiref.headers" (nat_lit 371), code := .ref (nat_lit 165) } }
noncomputable def ho109 (P : Params) : Obj := { cls := Value.type "tuple", data := Data.seq #[vs "self" (nat_lit 514), vs "name" (nat_lit 515), vs "default" (nat_lit 516), vs "k" (nat_lit 517), vs "v" (nat_lit 518)] }
noncomputable def ho110 (P : Params) : Obj := { cls := Value.none, data := Data.func { name := Str.ofString "get", qualname := Str.ofString "Headers.get", params := Mine.sP (Mine.sIn 10 8), body := FuncBody.stmts (Mine.sB (Mine.sIn 10 8)), scope := Mine.sS (Mine.sIn 10 8), globals := 0, closure := [], defaults := Value.none, kwdefaults := Value.none } }
noncomputable def ho111 (P : Params) : Obj := { cls := Value.type "code", data := Data.fields #[vs "get" (nat_lit 511), vs "Headers.get" (nat_lit 512), vs "/claim/cut.py" (nat_lit 513), vi (nat_lit 117) (nat_lit 0), vi (nat_lit 3) (nat_lit 0), vi (nat_lit 0) (nat_lit 0), vi (nat_lit 0) (nat_lit 0), vi (nat_lit 3) (nat_lit 0), .ref (nat_lit 168), Value.bool Bool.true, vi (nat_lit 276) (nat_lit 0), .ref (nat_lit 169), Value.none, .ref (nat_lit 170), .ref (nat_lit 171), .ref (nat_lit 172), vi (nat_lit 519) (nat_lit 0), vi (nat_lit 117) (nat_lit 0), vs "/claim/cut.py" (nat_lit 520)] }
noncomputable def ho112 (P : Params) : Obj := { cls := Value.type "function", data := Data.func { name := Str.ofString "get", qualname := Str.ofString "Headers.get", params := Mine.sP (Mine.sIn 10 8), body := FuncBody.stmts (Mine.sB (Mine.sIn 10 8)), scope := Mine.sS (Mine.sIn 10 8), globals := 3, closure := [], defaults := .ref (nat_lit 167), kwdefaults := Value.none, pyModule := vs "cpy313.wsgiref.headers" (nat_lit 371), code := .ref (nat_lit 173) } }
noncomputable def ho113 (P : Params) : Obj := { cls := Value.none, data := Data.func { name := Str.ofString "keys", qualname := Str.ofString "Headers.keys", params := Mine.sP (Mine.sIn 10 9), body := FuncBody.stmts (Mine.sB (Mine.sIn 10 9)), scope := Mine.sS (Mine.sIn 10 10), globals := 0, closure := [], defaults := Value.none, kwdefaults := Value.none } }
noncomputable def ho114 (P : Params) : Obj := { cls := Value.type "code", data := Data.fields #[vs "keys" (nat_lit 522), vs "Headers.keys" (nat_lit 523), vs "/claim/cut.py" (nat_lit 524), vi (nat_lit 124) (nat_lit 0), vi (nat_lit 1) (nat_lit 0), vi (nat_lit 0) (nat_lit 0), vi (nat_lit 0) (nat_lit 0), vi (nat_lit 3) (nat_lit 0), .ref (nat_lit 175), Value.bool Bool.true, vi (nat_lit 276) (nat_lit 0), .ref (nat_lit 176), Value.none, Value.none, Value.none, .ref (nat_lit 177), vi (nat_lit 525) (nat_lit 0), vi (nat_lit 124) (nat_lit 0), vs "/claim/cut.py" (nat_lit 526)] }
noncomputable def ho115 (P : Params) : Obj := { cls := Value.type "function", data := Data.func { name := Str.ofString "keys", qualname := Str.ofString "Headers.keys", params := Mine.sP (Mine.sIn 10 9), body := FuncBody.stmts (Mine.sB (Mine.sIn 10 9)), scope := Mine.sS (Mine.sIn 10 10), globals := 3, closure := [], defaults := Value.none, kwdefaults := Value.none, pyModule := vs "cpy313.wsgiref.headers" (nat_lit 371), code := .ref (nat_lit 178) } }
noncomputable def ho116 (P : Params) : Obj := { cls := Value.none, data := Data.func { name := Str.ofString "values", qualname := Str.ofString "Headers.values", params := Mine.sP (Mine.sIn 10 10), body := FuncBody.stmts (Mine.sB (Mine.sIn 10 10)), scope := Mine.sS (Mine.sIn 10 10), globals := 0, closure := [], defaults := Value.none, kwdefaults := Value.none } }
noncomputable def ho117 (P : Params) : Obj := { cls := Value.type "code", data := Data.fields #[vs "values" (nat_lit 528), vs "Headers.values" (nat_lit 529), vs "/claim/cut.py" (nat_lit 530), vi (nat_lit 127) (nat_lit 0), vi (nat_lit 1) (nat_lit 0), vi (nat_lit 0) (nat_lit 0), vi (nat_lit 0) (nat_lit 0), vi (nat_lit 3) (nat_lit 0), .ref (nat_lit 180), Value.bool Bool.true, vi (nat_lit 276) (nat_lit 0), .ref (nat_lit 181), Value.none, Value.none, Value.none, .ref (nat_lit 182), vi (nat_lit 531) (nat_lit 0), vi (nat_lit 127) (nat_lit 0), vs "/claim/cut.py" (nat_lit 532)] }
noncomputable def ho118 (P : Params) : Obj := { cls := Value.type "function", data := Data.func { name := Str.ofString "values", qualname := Str.ofString "Headers.values", params := Mine.sP (Mine.sIn 10 10), body := FuncBody.stmts (Mine.sB (Mine.sIn 10 10)), scope := Mine.sS (Mine.sIn 10 10), globals := 3, closure := [], defaults := Value.none, kwdefaults := Value.none, pyModule := vs "cpy313.wsgiref.headers" (nat_lit 371), code := .ref (nat_lit 183) } }
noncomputable def ho119 (P : Params) : Obj := { cls := Value.type "tuple", data := Data.seq #[vs "self" (nat_lit 537)] }
noncomputable def ho120 (P : Params) : Obj := { cls := Value.none, data := Data.func { name := Str.ofString "items", qualname := Str.ofString "Headers.items", params := Mine.sP (Mine.sIn 10 11), body := FuncBody.stmts (Mine.sB (Mine.sIn 10 11)), scope := Mine.sS (Mine.sIn 10 12), globals := 0, closure := [], defaults := Value.none, kwdefaults := Value.none } }
noncomputable def ho121 (P : Params) : Obj := { cls := Value.type "code", data := Data.fields #[vs "items" (nat_lit 534), vs "Headers.items" (nat_lit 535), vs "/claim/cut.py" (nat_lit 536), vi (nat_lit 130) (nat_lit 0), vi (nat_lit 1) (nat_lit 0), vi (nat_lit 0) (nat_lit 0), vi (nat_lit 0) (nat_lit 0), vi (nat_lit 3) (nat_lit 0), .ref (nat_lit 185), Value.bool Bool.true, vi (nat_lit 276) (nat_lit 0), .ref (nat_lit 186), Value.none, .ref (nat_lit 187), .ref (nat_lit 188), .ref (nat_lit 189), vi (nat_lit 538) (nat_lit 0), vi (nat_lit 130) (nat_lit 0), vs "/claim/cut.py" (nat_lit 539)] }
noncomputable def ho122 (P : Params) : Obj := { cls := Value.type "function", data := Data.func { name := Str.ofString "items", qualname := Str.ofString "Headers.items", params := Mine.sP (Mine.sIn 10 11), body := FuncBody.stmts (Mine.sB (Mine.sIn 10 11)), scope := Mine.sS (Mine.sIn 10 12), globals := 3, closure := [], defaults := Value.none, kwdefaults := Value.none, pyModule := vs "cpy313.wsgiref.headers" (nat_lit 371), code := .ref (nat_lit 190) } }
noncomputable def ho123 (P : Params) : Obj := { cls := Value.type "tuple", data := Data.seq #[vs "self" (nat_lit 544)] }
noncomputable def ho124 (P : Params) : Obj := { cls := Value.none, data := Data.func { name := Str.ofString "__repr__", qualname := Str.ofString "Headers.__repr__", params := Mine.sP (Mine.sIn 10 12), body := FuncBody.stmts (Mine.sB (Mine.sIn 10 12)), scope := Mine.sS (Mine.sIn 10 12), globals := 0, closure := [], defaults := Value.none, kwdefaults := Value.none } }
noncomputable def ho125 (P : Params) : Obj := { cls := Value.type "code", data := Data.fields #[vs "__repr__" (nat_lit 541), vs "Headers.__repr__" (nat_lit 542), vs "/claim/cut.py" (nat_lit 543), vi (nat_lit 133) (nat_lit 0), vi (nat_lit 1) (nat_lit 0), vi (nat_lit 0) (nat_lit 0), vi (nat_lit 0) (nat_lit 0), vi (nat_lit 3) (nat_lit 0), .ref (nat_lit 192), Value.bool Bool.true, vi (nat_lit 276) (nat_lit 0), .ref (nat_lit 193), Value.none, .ref (nat_lit 194), .ref (nat_lit 195), .ref (nat_lit 196), vi (nat_lit 545) (nat_lit 0), vi (nat_lit 133) (nat_lit 0), vs "/claim/cut.py" (nat_lit 546)] }
noncomputable def ho126 (P : Params) : Obj := { cls := Value.type "function", data := Data.func { name := Str.ofString "__repr__", qualname := Str.ofString "Headers.__repr__", params := Mine.sP (Mine.sIn 10 12), body := FuncBody.stmts (Mine.sB (Mine.sIn 10 12)), scope := Mine.sS (Mine.sIn 10 12), globals := 3, closure := [], defaults := Value.none, kwdefaults := Value.none, pyModule := vs "cpy313.wsgiref.headers" (nat_lit 371), code := .ref (nat_lit 197) } }
noncomputable def ho127 (P : Params) : Obj := { cls := Value.none, data := Data.func { name := Str.ofString "__str__", qualname := Str.ofString "Headers.__str__", params := Mine.sP (Mine.sIn 10 13), body := FuncBody.stmts (Mine.sB (Mine.sIn 10 13)), scope := Mine.sS (Mine.sIn 10 13), globals := 0, closure := [], defaults := Value.none, kwdefaults := Value.none } }
noncomputable def ho128 (P : Params) : Obj := { cls := Value.type "code", data := Data.fields #[vs "__str__" (nat_lit 548), vs "Headers.__str__" (nat_lit 549), vs "/claim/cut.py" (nat_lit 550), vi (nat_lit 136) (nat_lit 0), vi (nat_lit 1) (nat_lit 0), vi (nat_lit 0) (nat_lit 0), vi (nat_lit 0) (nat_lit 0), vi (nat_lit 3) (nat_lit 0), .ref (nat_lit 199), Value.bool Bool.true, vi (nat_lit 276) (nat_lit 0), .ref (nat_lit 200), Value.none, Value.none, Value.none, .ref (nat_lit 201), vi (nat_lit 551) (nat_lit 0), vi (nat_lit 136) (nat_lit 0), vs "/claim/cut.py" (nat_lit 552)] }
noncomputable def ho129 (P : Params) : Obj := { cls := Value.type "function", data := Data.func { name := Str.ofString "__str__", qualname := Str.ofString "Headers.__str__", params := Mine.sP (Mine.sIn 10 13), body := FuncBody.stmts (Mine.sB (Mine.sIn 10 13)), scope := Mine.sS (Mine.sIn 10 13), globals := 3, closure := [], defaults := Value.none, kwdefaults := Value.none, pyModule := vs "cpy313.wsgiref.headers" (nat_lit 371), code := .ref (nat_lit 202) } }
noncomputable def ho130 (P : Params) : Obj := { cls := Value.type "tuple", data := Data.seq #[vs "self" (nat_lit 557)] }
noncomputable def ho131 (P : Params) : Obj := { cls := Value.none, data := Data.func { name := Str.ofString "__bytes__", qualname := Str.ofString "Headers.__bytes__", params := Mine.sP (Mine.sIn 10 14), body := FuncBody.stmts (Mine.sB (Mine.sIn 10 14)), scope := Mine.sS (Mine.sIn 10 14), globals := 0, closure := [], defaults := Value.none, kwdefaults := Value.none } }
noncomputable def ho132 (P : Params) : Obj := { cls := Value.type "code", data := Data.fields #[vs "__bytes__" (nat_lit 554), vs "Headers.__bytes__" (nat_lit 555), vs "/claim/cut.py" (nat_lit 556), vi (nat_lit 139) (nat_lit 0), vi (nat_lit 1) (nat_lit 0), vi (nat_lit 0) (nat_lit 0), vi (nat_lit 0) (nat_lit 0), vi (nat_lit 3) (nat_lit 0), .ref (nat_lit 204), Value.bool Bool.true, vi (nat_lit 276) (nat_lit 0), .ref (nat_lit 205), Value.none, .ref (nat_lit 206), .ref (nat_lit 207), .ref (nat_lit 208), vi (nat_lit 558) (nat_lit 0), vi (nat_lit 139) (nat_lit 0), vs "/claim/cut.py" (nat_lit 559)] }
noncomputable def ho133 (P : Params) : Obj := { cls := Value.type "function", data := Data.func { name := Str.ofString "__bytes__", qualname := Str.ofString "Headers.__bytes__", params := Mine.sP (Mine.sIn 10 14), body := FuncBody.stmts (Mine.sB (Mine.sIn 10 14)), scope := Mine.sS (Mine.sIn 10 14), globals := 3, closure := [], defaults := Value.none, kwdefaults := Value.none, pyModule := vs "cpy313.wsgiref.headers" (nat_lit 371), code := .ref (nat_lit 209) } }
noncomputable def ho134 (P : Params) : Obj := { cls := Value.type "tuple", data := Data.seq #[vs "self" (nat_lit 564), vs "name" (nat_lit 565), vs "value" (nat_lit 566), vs "result" (nat_lit 567)] }
noncomputable def ho135 (P : Params) : Obj := { cls := Value.none, data := Data.func { name := Str.ofString "setdefault", qualname := Str.ofString "Headers.setdefault", params := Mine.sP (Mine.sIn 10 15), body := FuncBody.stmts (Mine.sB (Mine.sIn 10 15)), scope := Mine.sS (Mine.sIn 10 15), globals := 0, closure := [], defaults := Value.none, kwdefaults := Value.none } }
noncomputable def ho136 (P : Params) : Obj := { cls := Value.type "code", data := Data.fields #[vs "setdefault" (nat_lit 561), vs "Headers.setdefault" (nat_lit 562), vs "/claim/cut.py" (nat_lit 563), vi (nat_lit 142) (nat_lit 0), vi (nat_lit 3) (nat_lit 0), vi (nat_lit 0) (nat_lit 0), vi (nat_lit 0) (nat_lit 0), vi (nat_lit 3) (nat_lit 0), .ref (nat_lit 211), Value.bool Bool.true, vi (nat_lit 276) (nat_lit 0), .ref (nat_lit 212), Value.none, .ref (nat_lit 213), .ref (nat_lit 214), .ref (nat_lit 215), vi (nat_lit 568) (nat_lit 0), vi (nat_lit 142) (nat_lit 0), vs "/claim/cut.py" (nat_lit 569)] }
noncomputable def ho137 (P : Params) : Obj := { cls := Value.type "function", data := Data.func { name := Str.ofString "setdefault", qualname := Str.ofString "Headers.setdefault", params := Mine.sP (Mine.sIn 10 15), body := FuncBody.stmts (Mine.sB (Mine.sIn 10 15)), scope := Mine.sS (Mine.sIn 10 15), globals := 3, closure := [], defaults := Value.none, kwdefaults := Value.none, pyModule := vs "cpy313.wsgiref.headers" (nat_lit 371), code := .ref (nat_lit 216) } }
noncomputable def ho138 (P : Params) : Obj := { cls := Value.type "tuple", data := Data.seq #[vs "self" (nat_lit 574), vs "_name" (nat_lit 575), vs "_value" (nat_lit 576), vs "_params" (nat_lit 577)] }
noncomputable def ho139 (P : Params) : Obj := { cls := Value.none, data := Data.func { name := Str.ofString "add_header", qualname := Str.ofString "Headers.add_header", params := Mine.sP (Mine.sIn 10 16), body := FuncBody.stmts (Mine.sB (Mine.sIn 10 16)), scope := Mine.sS (Mine.sIn 10 16), globals := 0, closure := [], defaults := Value.none, kwdefaults := Value.none } }
noncomputable def ho140 (P : Params) : Obj := { cls := Value.type "code", data := Data.fields #[vs "add_header" (nat_lit 571), vs "Headers.add_header" (nat_lit 572), vs "/claim/cut.py" (nat_lit 573), vi (nat_lit 150) (nat_lit 0), vi (nat_lit 3) (nat_lit 0), vi (nat_lit 0) (nat_lit 0), vi (nat_lit 0) (nat_lit 0), vi (nat_lit 11) (nat_lit 0), .ref (nat_lit 218), Value.bool Bool.true, vi (nat_lit 276) (nat_lit 0), .ref (nat_lit 219), Value.none, .ref (nat_lit 220), .ref (nat_lit 221), .ref (nat_lit 222), vi (nat_lit 578) (nat_lit 0), vi (nat_lit 150) (nat_lit 0), vs "/claim/cut.py" (nat_lit 579)] }
noncomputable def ho141 (P : Params) : Obj := { cls := Value.type "function", data := Data.func { name := Str.ofString "add_header", qualname := Str.ofString "Headers.add_header", params := Mine.sP (Mine.sIn 10 16), body := FuncBody.stmts (Mine.sB (Mine.sIn 10 16)), scope := Mine.sS (Mine.sIn 10 16), globals := 3, closure := [], defaults := Value.none, kwdefaults := Value.none, pyModule := vs "cpy313.wsgiref.headers" (nat_lit 371), code := .ref (nat_lit 223) } }
noncomputable def ho142 (P : Params) : Obj := { cls := Value.type "tuple", data := Data.seq #[vs "_headers" (nat_lit 581)] }
noncomputable def ho143 (P : Params) : Obj := { cls := Value.type "dict", data := Data.dict #[ke P "__module__" (nat_lit 440) (vs "cpy313.wsgiref.headers" (nat_lit 371)), ke P "__firstlineno__" (nat_lit 444) (vi (nat_lit 77) (nat_lit 443)), ke P "__init__" (nat_lit 454) (.ref (nat_lit 119)), ke P "_convert_string_type" (nat_lit 464) (.ref (nat_lit 126)), ke P "__len__" (nat_lit 471) (.ref (nat_lit 133)), ke P "__setitem__" (nat_lit 480) (.ref (nat_lit 140)), ke P "__delitem__" (nat_lit 486) (.ref (nat_lit 145)), ke P "__getitem__" (nat_lit 494) (.ref (nat_lit 152)), ke P "__contains__" (nat_lit 502) (.ref (nat_lit 159)), ke P "get_all" (nat_lit 510) (.ref (nat_lit 166)), ke P "get" (nat_lit 521) (.ref (nat_lit 174)), ke P "keys" (nat_lit 527) (.ref (nat_lit 179)), ke P "values" (nat_lit 533) (.ref (nat_lit 184)), ke P "items" (nat_lit 540) (.ref (nat_lit 191)), ke P "__repr__" (nat_lit 547) (.ref (nat_lit 198)), ke P "__str__" (nat_lit 553) (.ref (nat_lit 203)), ke P "__bytes__" (nat_lit 560) (.ref (nat_lit 210)), ke P "setdefault" (nat_lit 570) (.ref (nat_lit 217)), ke P "add_header" (nat_lit 580) (.ref (nat_lit 224)), ke P "__static_attributes__" (nat_lit 582) (.ref (nat_lit 225)), ke P "__dict__" (nat_lit 584) (.ref (nat_lit 228)), ke P "__weakref__" (nat_lit 586) (.ref (nat_lit 229)), ke P "__doc__" (nat_lit 587) (Value.none)] 4 }
noncomputable def ho144 (P : Params) : Obj := { cls := Value.type "type", data := Data.cls { name := Str.ofString "Headers", bases := [Value.type "object"], mro := [.ref (nat_lit 227), Value.type "object"], ns := 226, qualname := Str.ofString "Headers" }, slots := #[Option.none, Option.none, Option.some (vs "Headers" (nat_lit 433)), Option.some (vs "Headers" (nat_lit 441)), Option.some (.builtin "object.__new__"), Option.some (Value.bool Bool.true)] }
noncomputable def ho145 (P : Params) : Obj := { cls := Value.type "getset_descriptor", data := Data.fields #[vs "__dict__" (nat_lit 583), .ref (nat_lit 227), .builtin "function.__dict__", .builtin "function.__dict__#set"] }
noncomputable def ho146 (P : Params) : Obj := { cls := Value.type "getset_descriptor", data := Data.fields #[vs "__weakref__" (nat_lit 585), .ref (nat_lit 227), .builtin "ExceptionGroup.__weakref__", Value.none] }
noncomputable def ho147 (P : Params) : Obj := { cls := Value.type "super", data := Data.fields #[.ref (nat_lit 227), .ref (nat_lit 227), .ref (nat_lit 227)] }
noncomputable def ho148 (P : Params) : Obj := { cls := Value.type "builtin_function_or_method", data := Data.fields #[.builtin "object.__init_subclass__", .ref (nat_lit 227)] }
noncomputable def life_c10 : Life := { }
noncomputable def drawn_c10 : Drawn := { }
noncomputable def gens_c10 : Array GenState := #[]
noncomputable def toks_c10 : Nat := 590
noncomputable def tree_c10 (P : Params) : BT := (.node (W.boot_o_0 P) (.node (ho0 P) (.node (ho72 P) (.node (W.boot_o_7 P) (.node (W.boot_o_7 P) (.node (ho20 P) (.node (W.boot_o_7 P) (.node (W.boot_o_7 P) .nil .nil) (.node (ho122 P) .nil .nil)) (.node (ho65 P) (.node (ho104 P) .nil .nil) (.node (ho140 P) .nil .nil))) (.node (W.boot_o_8 P) (.node (ho50 P) (.node (ho94 P) .nil .nil) (.node (W.boot_o_7 P) .nil .nil)) (.node (ho77 P) (.node (W.boot_o_7 P) .nil .nil) .nil))) (.node (ho14 P) (.node (W.boot_o_7 P) (.node (ho45 P) (.node (W.boot_o_8 P) .nil .nil) (.node (W.boot_o_7 P) .nil .nil)) (.node (ho70 P) (.node (ho66 P) .nil .nil) (.node (ho148 P) .nil .nil))) (.node (ho36 P) (.node (ho55 P) (.node (ho99 P) .nil .nil) (.node (ho135 P) .nil .nil)) (.node (ho81 P) (.node (ho117 P) .nil .nil) .nil)))) (.node (ho3 P) (.node (ho10 P) (.node (W.boot_o_7 P) (.node (W.boot_o_7 P) (.node (ho87 P) .nil .nil) (.node (W.boot_o_7 P) .nil .nil)) (.node (ho68 P) (.node (W.boot_o_7 P) .nil .nil) (.node (ho144 P) .nil .nil))) (.node (ho33 P) (.node (ho52 P) (.node (W.boot_o_8 P) .nil .nil) (.node (W.boot_o_7 P) .nil .nil)) (.node (ho78 P) (.node (ho115 P) .nil .nil) .nil))) (.node (ho18 P) (.node (ho28 P) (.node (W.boot_o_8 P) (.node (ho92 P) .nil .nil) (.node (ho129 P) .nil .nil)) (.node (ho74 P) (.node (W.boot_o_7 P) .nil .nil) .nil)) (.node (ho39 P) (.node (ho59 P) (.node (ho101 P) .nil .nil) (.node (W.boot_o_8 P) .nil .nil)) (.node (W.boot_o_7 P) (.node (ho119 P) .nil .nil) .nil))))) (.node (W.boot_o_5 P) (.node (W.boot_o_9 P) (.node (ho8 P) (.node (W.boot_o_8 P) (.node (ho42 P) (.node (ho86 P) .nil .nil) (.node (W.boot_o_8 P) .nil .nil)) (.node (ho66 P) (.node (W.boot_o_8 P) .nil .nil) (.node (ho142 P) .nil .nil))) (.node (W.boot_o_7 P) (.node (W.boot_o_7 P) (.node (ho96 P) .nil .nil) (.node (ho132 P) .nil .nil)) (.node (W.boot_o_7 P) (.node (ho113 P) .nil .nil) .nil))) (.node (ho16 P) (.node (ho27 P) (.node (ho47 P) (.node (W.boot_o_7 P) .nil .nil) (.node (ho127 P) .nil .nil)) (.node (W.boot_o_7 P) (.node (W.boot_o_8 P) .nil .nil) .nil)) (.node (ho37 P) (.node (ho57 P) (.node (W.boot_o_7 P) .nil .nil) (.node (ho137 P) .nil .nil)) (.node (W.boot_o_8 P) (.node (W.boot_o_7 P) .nil .nil) .nil)))) (.node (ho5 P) (.node (ho12 P) (.node (ho25 P) (.node (ho44 P) (.node (ho89 P) .nil .nil) (.node (ho125 P) .nil .nil)) (.node (W.boot_o_6 P) (.node (ho107 P) .nil .nil) (.node (ho146 P) .nil .nil))) (.node (W.boot_o_7 P) (.node (ho53 P) (.node (W.boot_o_7 P) .nil .nil) (.node (ho134 P) .nil .nil)) (.node (ho79 P) (.node (W.boot_o_8 P) .nil .nil) .nil))) (.node (ho73 P) (.node (ho30 P) (.node (W.boot_o_7 P) (.node (W.boot_o_7 P) .nil .nil) (.node (W.boot_o_8 P) .nil .nil)) (.node (ho75 P) (.node (ho111 P) .nil .nil) .nil)) (.node (W.boot_o_8 P) (.node (ho61 P) (.node (ho102 P) .nil .nil) (.node (W.boot_o_7 P) .nil .nil)) (.node (ho84 P) (.node (ho120 P) .nil .nil) .nil)))))) (.node (ho1 P) (.node (W.boot_o_4 P) (.node (W.boot_o_8 P) (.node (ho7 P) (.node (W.boot_o_7 P) (.node (ho41 P) (.node (W.boot_o_8 P) .nil .nil) (.node (W.boot_o_7 P) .nil .nil)) (.node (W.boot_o_6 P) (.node (W.boot_o_7 P) .nil .nil) (.node (ho141 P) .nil .nil))) (.node (ho31 P) (.node (ho51 P) (.node (ho95 P) .nil .nil) (.node (ho131 P) .nil .nil)) (.node (ho66 P) (.node (W.boot_o_8 P) .nil .nil) .nil))) (.node (ho15 P) (.node (W.boot_o_8 P) (.node (ho46 P) (.node (ho90 P) .nil .nil) (.node (W.boot_o_8 P) .nil .nil)) (.node (ho71 P) (.node (W.boot_o_7 P) .nil .nil) .nil)) (.node (W.boot_o_7 P) (.node (ho56 P) (.node (ho100 P) .nil .nil) (.node (ho136 P) .nil .nil)) (.node (W.boot_o_7 P) (.node (ho118 P) .nil .nil) .nil)))) (.node (ho4 P) (.node (ho11 P) (.node (ho24 P) (.node (W.boot_o_8 P) (.node (ho88 P) .nil .nil) (.node (ho124 P) .nil .nil)) (.node (ho69 P) (.node (ho106 P) .nil .nil) (.node (ho145 P) .nil .nil))) (.node (ho34 P) (.node (W.boot_o_7 P) (.node (ho97 P) .nil .nil) (.node (W.boot_o_8 P) .nil .nil)) (.node (W.boot_o_7 P) (.node (W.boot_o_7 P) .nil .nil) .nil))) (.node (W.boot_o_7 P) (.node (ho29 P) (.node (ho48 P) (.node (ho93 P) .nil .nil) (.node (W.boot_o_7 P) .nil .nil)) (.node (W.boot_o_7 P) (.node (ho110 P) .nil .nil) .nil)) (.node (W.boot_o_7 P) (.node (ho60 P) (.node (W.boot_o_7 P) .nil .nil) (.node (ho138 P) .nil .nil)) (.node (ho83 P) (.node (W.boot_o_7 P) .nil .nil) .nil))))) (.node (W.boot_o_6 P) (.node (W.boot_o_10 P) (.node (ho9 P) (.node (ho23 P) (.node (ho43 P) (.node (W.boot_o_7 P) .nil .nil) (.node (ho123 P) .nil .nil)) (.node (ho67 P) (.node (ho105 P) .nil .nil) (.node (ho143 P) .nil .nil))) (.node (ho32 P) (.node (W.boot_o_8 P) (.node (W.boot_o_7 P) .nil .nil) (.node (ho133 P) .nil .nil)) (.node (W.boot_o_8 P) (.node (ho114 P) .nil .nil) .nil))) (.node (ho17 P) (.node (W.boot_o_7 P) (.node (W.boot_o_7 P) (.node (ho91 P) .nil .nil) (.node (ho128 P) .nil .nil)) (.node (ho35 P) (.node (ho109 P) .nil .nil) .nil)) (.node (ho38 P) (.node (ho58 P) (.node (W.boot_o_8 P) .nil .nil) (.node (W.boot_o_7 P) .nil .nil)) (.node (ho82 P) (.node (W.boot_o_8 P) .nil .nil) .nil)))) (.node (ho6 P) (.node (ho13 P) (.node (ho26 P) (.node (W.boot_o_7 P) (.node (W.boot_o_7 P) .nil .nil) (.node (ho126 P) .nil .nil)) (.node (ho66 P) (.node (ho108 P) .nil .nil) (.node (ho147 P) .nil .nil))) (.node (ho35 P) (.node (ho54 P) (.node (ho98 P) .nil .nil) (.node (W.boot_o_7 P) .nil .nil)) (.node (ho80 P) (.node (ho116 P) .nil .nil) .nil))) (.node (ho19 P) (.node (W.boot_o_7 P) (.node (ho49 P) (.node (W.boot_o_8 P) .nil .nil) (.node (ho130 P) .nil .nil)) (.node (ho76 P) (.node (ho112 P) .nil .nil) .nil)) (.node (ho40 P) (.node (ho62 P) (.node (ho103 P) .nil .nil) (.node (ho139 P) .nil .nil)) (.node (ho85 P) (.node (ho121 P) .nil .nil) .nil)))))))
noncomputable def ho149 (P : Params) : Obj := { cls := Value.type "dict", data := Data.dict #[ke P "__name__" (nat_lit 165) (vs "law_to0068_01" (nat_lit 613)), ke P "__doc__" (nat_lit 166) (Value.none), ke P "__package__" (nat_lit 167) (Value.none), ke P "__loader__" (nat_lit 168) (.builtin "__main__.__loader__#opaque"), ke P "__spec__" (nat_lit 169) (Value.none), ke P "__annotations__" (nat_lit 170) (.ref (nat_lit 6)), ke P "__builtins__" (nat_lit 171) (.ref (nat_lit 4)), ke P "__file__" (nat_lit 173) (vs "/claim/cut.py" (nat_lit 172)), ke P "__cached__" (nat_lit 174) (Value.none), ke P "_sre" (nat_lit 275) (.ref (nat_lit 12)), ke P "_wall" (nat_lit 288) (.ref (nat_lit 38)), ke P "CHAR_MAX" (nat_lit 292) (vi (nat_lit 127) (nat_lit 291)), ke P "_grouping_intervals" (nat_lit 301) (.ref (nat_lit 45)), ke P "_build_localename" (nat_lit 310) (.ref (nat_lit 52)), ke P "_netrclex" (nat_lit 370) (.ref (nat_lit 90)), ke P "_name_disallowed_re" (nat_lit 398) (.ref (nat_lit 99)), ke P "_value_disallowed_re" (nat_lit 432) (.ref (nat_lit 104)), ke P "Headers" (nat_lit 589) (.ref (nat_lit 227)), ke P "_raise_serialization_error" (nat_lit 598) (.ref (nat_lit 238)), ke P "_escape_cdata" (nat_lit 605) (.ref (nat_lit 245)), ke P "_escape_attrib" (nat_lit 612) (.ref (nat_lit 252)), ke P "_law_lexer" (nat_lit 625) (.ref (nat_lit 259)), ke P "_law_steps" (nat_lit 635) (.ref (nat_lit 266)), ke P "_law_due" (nat_lit 648) (.ref (nat_lit 273)), ke P "_law_grown" (nat_lit 654) (.ref (nat_lit 278)), ke P "_law_table" (nat_lit 660) (.ref (nat_lit 283)), ke P "_law_exchanged" (nat_lit 667) (.ref (nat_lit 290)), ke P "_law_written" (nat_lit 676) (.ref (nat_lit 297)), ke P "law" (nat_lit 682) (.ref (nat_lit 302))] 29 }
noncomputable def ho150 (P : Params) : Obj := { cls := Value.none, data := Data.fields #[vi (nat_lit 2) (nat_lit 0), vi (nat_lit 0) (nat_lit 0), .ref (nat_lit 37), vi (nat_lit 7) (nat_lit 0), vi (nat_lit 0) (nat_lit 0), .ref (nat_lit 44), vi (nat_lit 19) (nat_lit 0), vi (nat_lit 0) (nat_lit 0), .ref (nat_lit 51), vi (nat_lit 31) (nat_lit 0), vi (nat_lit 0) (nat_lit 0), .ref (nat_lit 58), vi (nat_lit 77) (nat_lit 0), vi (nat_lit 0) (nat_lit 0), .ref (nat_lit 110), vi (nat_lit 153) (nat_lit 0), vi (nat_lit 0) (nat_lit 0), .ref (nat_lit 237), vi (nat_lit 155) (nat_lit 0), vi (nat_lit 0) (nat_lit 0), .ref (nat_lit 244), vi (nat_lit 166) (nat_lit 0), vi (nat_lit 0) (nat_lit 0), .ref (nat_lit 251), vi (nat_lit 186) (nat_lit 0), vi (nat_lit 0) (nat_lit 0), .ref (nat_lit 258), vi (nat_lit 196) (nat_lit 0), vi (nat_lit 0) (nat_lit 0), .ref (nat_lit 265), vi (nat_lit 204) (nat_lit 0), vi (nat_lit 0) (nat_lit 0), .ref (nat_lit 272), vi (nat_lit 209) (nat_lit 0), vi (nat_lit 0) (nat_lit 0), .ref (nat_lit 277), vi (nat_lit 219) (nat_lit 0), vi (nat_lit 0) (nat_lit 0), .ref (nat_lit 282), vi (nat_lit 229) (nat_lit 0), vi (nat_lit 0) (nat_lit 0), .ref (nat_lit 289), vi (nat_lit 231) (nat_lit 0), vi (nat_lit 0) (nat_lit 0), .ref (nat_lit 296), vi (nat_lit 238) (nat_lit 0), vi (nat_lit 0) (nat_lit 0), .ref (nat_lit 301)] }
noncomputable def ho151 (P : Params) : Obj := { cls := Value.type "tuple", data := Data.seq #[vs "text" (nat_lit 595)] }
noncomputable def ho152 (P : Params) : Obj := { cls := Value.none, data := Data.func { name := Str.ofString "_raise_serialization_error", qualname := Str.ofString "_raise_serialization_error", params := Mine.sP (Mine.sFn 12), body := FuncBody.stmts (Mine.sB (Mine.sFn 12)), scope := Mine.sS (Mine.sFn 12), globals := 0, closure := [], defaults := Value.none, kwdefaults := Value.none } }
noncomputable def ho153 (P : Params) : Obj := { cls := Value.type "code", data := Data.fields #[vs "_raise_serialization_error" (nat_lit 592), vs "_raise_serialization_error" (nat_lit 593), vs "/claim/cut.py" (nat_lit 594), vi (nat_lit 153) (nat_lit 0), vi (nat_lit 1) (nat_lit 0), vi (nat_lit 0) (nat_lit 0), vi (nat_lit 0) (nat_lit 0), vi (nat_lit 3) (nat_lit 0), .ref (nat_lit 232), Value.bool Bool.true, vi (nat_lit 276) (nat_lit 0), .ref (nat_lit 233), Value.none, .ref (nat_lit 234), .ref (nat_lit 235), .ref (nat_lit 236), vi (nat_lit 596) (nat_lit 0), vi (nat_lit 153) (nat_lit 0), vs "/claim/cut.py" (nat_lit 597)] }
noncomputable def ho154 (P : Params) : Obj := { cls := Value.type "function", data := Data.func { name := Str.ofString "_raise_serialization_error", qualname := Str.ofString "_raise_serialization_error", params := Mine.sP (Mine.sFn 12), body := FuncBody.stmts (Mine.sB (Mine.sFn 12)), scope := Mine.sS (Mine.sFn 12), globals := 3, closure := [], defaults := Value.none, kwdefaults := Value.none, pyModule := vs "cpy313.xml.etree.ElementTree" (nat_lit 590), code := .ref (nat_lit 237) } }
noncomputable def ho155 (P : Params) : Obj := { cls := Value.type "tuple", data := Data.seq #[vs "text" (nat_lit 602)] }
noncomputable def ho156 (P : Params) : Obj := { cls := Value.none, data := Data.func { name := Str.ofString "_escape_cdata", qualname := Str.ofString "_escape_cdata", params := Mine.sP (Mine.sFn 13), body := FuncBody.stmts (Mine.sB (Mine.sFn 13)), scope := Mine.sS (Mine.sFn 14), globals := 0, closure := [], defaults := Value.none, kwdefaults := Value.none } }
noncomputable def ho157 (P : Params) : Obj := { cls := Value.type "code", data := Data.fields #[vs "_escape_cdata" (nat_lit 599), vs "_escape_cdata" (nat_lit 600), vs "/claim/cut.py" (nat_lit 601), vi (nat_lit 155) (nat_lit 0), vi (nat_lit 1) (nat_lit 0), vi (nat_lit 0) (nat_lit 0), vi (nat_lit 0) (nat_lit 0), vi (nat_lit 3) (nat_lit 0), .ref (nat_lit 239), Value.bool Bool.true, vi (nat_lit 276) (nat_lit 0), .ref (nat_lit 240), Value.none, .ref (nat_lit 241), .ref (nat_lit 242), .ref (nat_lit 243), vi (nat_lit 603) (nat_lit 0), vi (nat_lit 155) (nat_lit 0), vs "/claim/cut.py" (nat_lit 604)] }
noncomputable def ho158 (P : Params) : Obj := { cls := Value.type "function", data := Data.func { name := Str.ofString "_escape_cdata", qualname := Str.ofString "_escape_cdata", params := Mine.sP (Mine.sFn 13), body := FuncBody.stmts (Mine.sB (Mine.sFn 13)), scope := Mine.sS (Mine.sFn 14), globals := 3, closure := [], defaults := Value.none, kwdefaults := Value.none, pyModule := vs "cpy313.xml.etree.ElementTree" (nat_lit 590), code := .ref (nat_lit 244) } }
noncomputable def ho159 (P : Params) : Obj := { cls := Value.type "tuple", data := Data.seq #[vs "text" (nat_lit 609)] }
noncomputable def ho160 (P : Params) : Obj := { cls := Value.none, data := Data.func { name := Str.ofString "_escape_attrib", qualname := Str.ofString "_escape_attrib", params := Mine.sP (Mine.sFn 14), body := FuncBody.stmts (Mine.sB (Mine.sFn 14)), scope := Mine.sS (Mine.sFn 14), globals := 0, closure := [], defaults := Value.none, kwdefaults := Value.none } }
noncomputable def ho161 (P : Params) : Obj := { cls := Value.type "code", data := Data.fields #[vs "_escape_attrib" (nat_lit 606), vs "_escape_attrib" (nat_lit 607), vs "/claim/cut.py" (nat_lit 608), vi (nat_lit 166) (nat_lit 0), vi (nat_lit 1) (nat_lit 0), vi (nat_lit 0) (nat_lit 0), vi (nat_lit 0) (nat_lit 0), vi (nat_lit 3) (nat_lit 0), .ref (nat_lit 246), Value.bool Bool.true, vi (nat_lit 276) (nat_lit 0), .ref (nat_lit 247), Value.none, .ref (nat_lit 248), .ref (nat_lit 249), .ref (nat_lit 250), vi (nat_lit 610) (nat_lit 0), vi (nat_lit 166) (nat_lit 0), vs "/claim/cut.py" (nat_lit 611)] }
noncomputable def ho162 (P : Params) : Obj := { cls := Value.type "function", data := Data.func { name := Str.ofString "_escape_attrib", qualname := Str.ofString "_escape_attrib", params := Mine.sP (Mine.sFn 14), body := FuncBody.stmts (Mine.sB (Mine.sFn 14)), scope := Mine.sS (Mine.sFn 14), globals := 3, closure := [], defaults := Value.none, kwdefaults := Value.none, pyModule := vs "cpy313.xml.etree.ElementTree" (nat_lit 590), code := .ref (nat_lit 251) } }
noncomputable def ho163 (P : Params) : Obj := { cls := Value.type "tuple", data := Data.seq #[vs "text" (nat_lit 618), vs "stream" (nat_lit 619), vs "_law_piece" (nat_lit 620)] }
noncomputable def ho164 (P : Params) : Obj := { cls := Value.type "tuple", data := Data.seq #[vs "text" (nat_lit 621), vs "gone" (nat_lit 622)] }
noncomputable def ho165 (P : Params) : Obj := { cls := Value.none, data := Data.func { name := Str.ofString "_law_lexer", qualname := Str.ofString "_law_lexer", params := Mine.sP (Mine.sFn 16), body := FuncBody.stmts (Mine.sB (Mine.sFn 16)), scope := Mine.sS (Mine.sFn 16), globals := 0, closure := [], defaults := Value.none, kwdefaults := Value.none } }
noncomputable def ho166 (P : Params) : Obj := { cls := Value.type "code", data := Data.fields #[vs "_law_lexer" (nat_lit 615), vs "_law_lexer" (nat_lit 616), vs "/claim/cut.py" (nat_lit 617), vi (nat_lit 186) (nat_lit 0), vi (nat_lit 1) (nat_lit 0), vi (nat_lit 0) (nat_lit 0), vi (nat_lit 0) (nat_lit 0), vi (nat_lit 3) (nat_lit 0), .ref (nat_lit 253), Value.bool Bool.true, vi (nat_lit 276) (nat_lit 0), .ref (nat_lit 254), Value.none, .ref (nat_lit 255), .ref (nat_lit 256), .ref (nat_lit 257), vi (nat_lit 623) (nat_lit 0), vi (nat_lit 186) (nat_lit 0), vs "/claim/cut.py" (nat_lit 624)] }
noncomputable def ho167 (P : Params) : Obj := { cls := Value.type "function", data := Data.func { name := Str.ofString "_law_lexer", qualname := Str.ofString "_law_lexer", params := Mine.sP (Mine.sFn 16), body := FuncBody.stmts (Mine.sB (Mine.sFn 16)), scope := Mine.sS (Mine.sFn 16), globals := 3, closure := [], defaults := Value.none, kwdefaults := Value.none, pyModule := vs "law_to0068_01" (nat_lit 613), code := .ref (nat_lit 258) } }
noncomputable def ho168 (P : Params) : Obj := { cls := Value.type "tuple", data := Data.seq #[vs "sizes" (nat_lit 629), vs "kind" (nat_lit 630), vs "steps" (nat_lit 631), vs "size" (nat_lit 632)] }
noncomputable def ho169 (P : Params) : Obj := { cls := Value.none, data := Data.func { name := Str.ofString "_law_steps", qualname := Str.ofString "_law_steps", params := Mine.sP (Mine.sFn 17), body := FuncBody.stmts (Mine.sB (Mine.sFn 17)), scope := Mine.sS (Mine.sFn 17), globals := 0, closure := [], defaults := Value.none, kwdefaults := Value.none } }
noncomputable def ho170 (P : Params) : Obj := { cls := Value.type "code", data := Data.fields #[vs "_law_steps" (nat_lit 626), vs "_law_steps" (nat_lit 627), vs "/claim/cut.py" (nat_lit 628), vi (nat_lit 196) (nat_lit 0), vi (nat_lit 2) (nat_lit 0), vi (nat_lit 0) (nat_lit 0), vi (nat_lit 0) (nat_lit 0), vi (nat_lit 3) (nat_lit 0), .ref (nat_lit 260), Value.bool Bool.true, vi (nat_lit 276) (nat_lit 0), .ref (nat_lit 261), Value.none, .ref (nat_lit 262), .ref (nat_lit 263), .ref (nat_lit 264), vi (nat_lit 633) (nat_lit 0), vi (nat_lit 196) (nat_lit 0), vs "/claim/cut.py" (nat_lit 634)] }
noncomputable def ho171 (P : Params) : Obj := { cls := Value.type "function", data := Data.func { name := Str.ofString "_law_steps", qualname := Str.ofString "_law_steps", params := Mine.sP (Mine.sFn 17), body := FuncBody.stmts (Mine.sB (Mine.sFn 17)), scope := Mine.sS (Mine.sFn 17), globals := 3, closure := [], defaults := Value.none, kwdefaults := Value.none, pyModule := vs "law_to0068_01" (nat_lit 613), code := .ref (nat_lit 265) } }
noncomputable def ho172 (P : Params) : Obj := { cls := Value.type "tuple", data := Data.seq #[vs "sizes" (nat_lit 639), vs "kind" (nat_lit 640), vs "again" (nat_lit 641), vs "runs" (nat_lit 642), vs "steps" (nat_lit 643), vs "place" (nat_lit 644), vs "size" (nat_lit 645)] }
noncomputable def ho173 (P : Params) : Obj := { cls := Value.none, data := Data.func { name := Str.ofString "_law_due", qualname := Str.ofString "_law_due", params := Mine.sP (Mine.sFn 18), body := FuncBody.stmts (Mine.sB (Mine.sFn 18)), scope := Mine.sS (Mine.sFn 18), globals := 0, closure := [], defaults := Value.none, kwdefaults := Value.none } }
noncomputable def ho174 (P : Params) : Obj := { cls := Value.type "code", data := Data.fields #[vs "_law_due" (nat_lit 636), vs "_law_due" (nat_lit 637), vs "/claim/cut.py" (nat_lit 638), vi (nat_lit 204) (nat_lit 0), vi (nat_lit 3) (nat_lit 0), vi (nat_lit 0) (nat_lit 0), vi (nat_lit 0) (nat_lit 0), vi (nat_lit 3) (nat_lit 0), .ref (nat_lit 267), Value.bool Bool.true, vi (nat_lit 276) (nat_lit 0), .ref (nat_lit 268), Value.none, .ref (nat_lit 269), .ref (nat_lit 270), .ref (nat_lit 271), vi (nat_lit 646) (nat_lit 0), vi (nat_lit 204) (nat_lit 0), vs "/claim/cut.py" (nat_lit 647)] }
noncomputable def ho175 (P : Params) : Obj := { cls := Value.type "function", data := Data.func { name := Str.ofString "_law_due", qualname := Str.ofString "_law_due", params := Mine.sP (Mine.sFn 18), body := FuncBody.stmts (Mine.sB (Mine.sFn 18)), scope := Mine.sS (Mine.sFn 18), globals := 3, closure := [], defaults := Value.none, kwdefaults := Value.none, pyModule := vs "law_to0068_01" (nat_lit 613), code := .ref (nat_lit 272) } }
noncomputable def ho176 (P : Params) : Obj := { cls := Value.none, data := Data.func { name := Str.ofString "_law_grown", qualname := Str.ofString "_law_grown", params := Mine.sP (Mine.sFn 19), body := FuncBody.stmts (Mine.sB (Mine.sFn 19)), scope := Mine.sS (Mine.sFn 19), globals := 0, closure := [], defaults := Value.none, kwdefaults := Value.none } }
noncomputable def ho177 (P : Params) : Obj := { cls := Value.type "code", data := Data.fields #[vs "_law_grown" (nat_lit 649), vs "_law_grown" (nat_lit 650), vs "/claim/cut.py" (nat_lit 651), vi (nat_lit 209) (nat_lit 0), vi (nat_lit 2) (nat_lit 0), vi (nat_lit 0) (nat_lit 0), vi (nat_lit 0) (nat_lit 0), vi (nat_lit 3) (nat_lit 0), .ref (nat_lit 274), Value.bool Bool.true, vi (nat_lit 276) (nat_lit 0), .ref (nat_lit 275), Value.none, Value.none, Value.none, .ref (nat_lit 276), vi (nat_lit 652) (nat_lit 0), vi (nat_lit 209) (nat_lit 0), vs "/claim/cut.py" (nat_lit 653)] }
noncomputable def ho178 (P : Params) : Obj := { cls := Value.type "function", data := Data.func { name := Str.ofString "_law_grown", qualname := Str.ofString "_law_grown", params := Mine.sP (Mine.sFn 19), body := FuncBody.stmts (Mine.sB (Mine.sFn 19)), scope := Mine.sS (Mine.sFn 19), globals := 3, closure := [], defaults := Value.none, kwdefaults := Value.none, pyModule := vs "law_to0068_01" (nat_lit 613), code := .ref (nat_lit 277) } }
noncomputable def ho179 (P : Params) : Obj := { cls := Value.none, data := Data.func { name := Str.ofString "_law_table", qualname := Str.ofString "_law_table", params := Mine.sP (Mine.sFn 20), body := FuncBody.stmts (Mine.sB (Mine.sFn 20)), scope := Mine.sS (Mine.sFn 20), globals := 0, closure := [], defaults := Value.none, kwdefaults := Value.none } }
noncomputable def ho180 (P : Params) : Obj := { cls := Value.type "code", data := Data.fields #[vs "_law_table" (nat_lit 655), vs "_law_table" (nat_lit 656), vs "/claim/cut.py" (nat_lit 657), vi (nat_lit 219) (nat_lit 0), vi (nat_lit 1) (nat_lit 0), vi (nat_lit 0) (nat_lit 0), vi (nat_lit 0) (nat_lit 0), vi (nat_lit 3) (nat_lit 0), .ref (nat_lit 279), Value.bool Bool.true, vi (nat_lit 276) (nat_lit 0), .ref (nat_lit 280), Value.none, Value.none, Value.none, .ref (nat_lit 281), vi (nat_lit 658) (nat_lit 0), vi (nat_lit 219) (nat_lit 0), vs "/claim/cut.py" (nat_lit 659)] }
noncomputable def ho181 (P : Params) : Obj := { cls := Value.type "function", data := Data.func { name := Str.ofString "_law_table", qualname := Str.ofString "_law_table", params := Mine.sP (Mine.sFn 20), body := FuncBody.stmts (Mine.sB (Mine.sFn 20)), scope := Mine.sS (Mine.sFn 20), globals := 3, closure := [], defaults := Value.none, kwdefaults := Value.none, pyModule := vs "law_to0068_01" (nat_lit 613), code := .ref (nat_lit 282) } }
noncomputable def ho182 (P : Params) : Obj := { cls := Value.type "tuple", data := Data.seq #[vs "text" (nat_lit 664)] }
noncomputable def ho183 (P : Params) : Obj := { cls := Value.none, data := Data.func { name := Str.ofString "_law_exchanged", qualname := Str.ofString "_law_exchanged", params := Mine.sP (Mine.sFn 21), body := FuncBody.stmts (Mine.sB (Mine.sFn 21)), scope := Mine.sS (Mine.sFn 21), globals := 0, closure := [], defaults := Value.none, kwdefaults := Value.none } }
noncomputable def ho184 (P : Params) : Obj := { cls := Value.type "code", data := Data.fields #[vs "_law_exchanged" (nat_lit 661), vs "_law_exchanged" (nat_lit 662), vs "/claim/cut.py" (nat_lit 663), vi (nat_lit 229) (nat_lit 0), vi (nat_lit 1) (nat_lit 0), vi (nat_lit 0) (nat_lit 0), vi (nat_lit 0) (nat_lit 0), vi (nat_lit 3) (nat_lit 0), .ref (nat_lit 284), Value.bool Bool.true, vi (nat_lit 276) (nat_lit 0), .ref (nat_lit 285), Value.none, .ref (nat_lit 286), .ref (nat_lit 287), .ref (nat_lit 288), vi (nat_lit 665) (nat_lit 0), vi (nat_lit 229) (nat_lit 0), vs "/claim/cut.py" (nat_lit 666)] }
noncomputable def ho185 (P : Params) : Obj := { cls := Value.type "function", data := Data.func { name := Str.ofString "_law_exchanged", qualname := Str.ofString "_law_exchanged", params := Mine.sP (Mine.sFn 21), body := FuncBody.stmts (Mine.sB (Mine.sFn 21)), scope := Mine.sS (Mine.sFn 21), globals := 3, closure := [], defaults := Value.none, kwdefaults := Value.none, pyModule := vs "law_to0068_01" (nat_lit 613), code := .ref (nat_lit 289) } }
noncomputable def ho186 (P : Params) : Obj := { cls := Value.type "tuple", data := Data.seq #[vs "steps" (nat_lit 671), vs "text" (nat_lit 672), vs "kind" (nat_lit 673)] }
noncomputable def ho187 (P : Params) : Obj := { cls := Value.none, data := Data.func { name := Str.ofString "_law_written", qualname := Str.ofString "_law_written", params := Mine.sP (Mine.sFn 22), body := FuncBody.stmts (Mine.sB (Mine.sFn 22)), scope := Mine.sS (Mine.sFn 22), globals := 0, closure := [], defaults := Value.none, kwdefaults := Value.none } }
noncomputable def ho188 (P : Params) : Obj := { cls := Value.type "code", data := Data.fields #[vs "_law_written" (nat_lit 668), vs "_law_written" (nat_lit 669), vs "/claim/cut.py" (nat_lit 670), vi (nat_lit 231) (nat_lit 0), vi (nat_lit 2) (nat_lit 0), vi (nat_lit 0) (nat_lit 0), vi (nat_lit 0) (nat_lit 0), vi (nat_lit 3) (nat_lit 0), .ref (nat_lit 291), Value.bool Bool.true, vi (nat_lit 276) (nat_lit 0), .ref (nat_lit 292), Value.none, .ref (nat_lit 293), .ref (nat_lit 294), .ref (nat_lit 295), vi (nat_lit 674) (nat_lit 0), vi (nat_lit 231) (nat_lit 0), vs "/claim/cut.py" (nat_lit 675)] }
noncomputable def ho189 (P : Params) : Obj := { cls := Value.type "function", data := Data.func { name := Str.ofString "_law_written", qualname := Str.ofString "_law_written", params := Mine.sP (Mine.sFn 22), body := FuncBody.stmts (Mine.sB (Mine.sFn 22)), scope := Mine.sS (Mine.sFn 22), globals := 3, closure := [], defaults := Value.none, kwdefaults := Value.none, pyModule := vs "law_to0068_01" (nat_lit 613), code := .ref (nat_lit 296) } }
noncomputable def ho190 (P : Params) : Obj := { cls := Value.none, data := Data.func { name := Str.ofString "law", qualname := Str.ofString "law", params := Mine.sP (Mine.sFn 23), body := FuncBody.stmts (Mine.sB (Mine.sFn 23)), scope := Mine.sS (Mine.sFn 23), globals := 0, closure := [], defaults := Value.none, kwdefaults := Value.none } }
noncomputable def ho191 (P : Params) : Obj := { cls := Value.type "code", data := Data.fields #[vs "law" (nat_lit 677), vs "law" (nat_lit 678), vs "/claim/cut.py" (nat_lit 679), vi (nat_lit 238) (nat_lit 0), vi (nat_lit 1) (nat_lit 0), vi (nat_lit 0) (nat_lit 0), vi (nat_lit 0) (nat_lit 0), vi (nat_lit 3) (nat_lit 0), .ref (nat_lit 298), Value.bool Bool.true, vi (nat_lit 276) (nat_lit 0), .ref (nat_lit 299), Value.none, Value.none, Value.none, .ref (nat_lit 300), vi (nat_lit 680) (nat_lit 0), vi (nat_lit 238) (nat_lit 0), vs "/claim/cut.py" (nat_lit 681)] }
noncomputable def ho192 (P : Params) : Obj := { cls := Value.type "function", data := Data.func { name := Str.ofString "law", qualname := Str.ofString "law", params := Mine.sP (Mine.sFn 23), body := FuncBody.stmts (Mine.sB (Mine.sFn 23)), scope := Mine.sS (Mine.sFn 23), globals := 3, closure := [], defaults := Value.none, kwdefaults := Value.none, pyModule := vs "law_to0068_01" (nat_lit 613), code := .ref (nat_lit 301) } }
noncomputable def life_c23 : Life := { }
noncomputable def drawn_c23 : Drawn := { }
noncomputable def gens_c23 : Array GenState := #[]
noncomputable def toks_c23 : Nat := 683
noncomputable def tree_c23 (P : Params) : BT := (.node (W.boot_o_0 P) (.node (ho0 P) (.node (ho149 P) (.node (W.boot_o_7 P) (.node (W.boot_o_7 P) (.node (ho20 P) (.node (W.boot_o_7 P) (.node (W.boot_o_7 P) (.node (ho163 P) .nil .nil) .nil) (.node (ho122 P) .nil .nil)) (.node (ho65 P) (.node (ho104 P) (.node (W.boot_o_7 P) .nil .nil) .nil) (.node (ho140 P) .nil .nil))) (.node (W.boot_o_8 P) (.node (ho50 P) (.node (ho94 P) (.node (ho173 P) .nil .nil) .nil) (.node (W.boot_o_7 P) .nil .nil)) (.node (ho77 P) (.node (W.boot_o_7 P) .nil .nil) (.node (W.boot_o_7 P) .nil .nil)))) (.node (ho14 P) (.node (W.boot_o_7 P) (.node (ho45 P) (.node (W.boot_o_8 P) (.node (W.boot_o_7 P) .nil .nil) .nil) (.node (W.boot_o_7 P) .nil .nil)) (.node (ho70 P) (.node (ho66 P) (.node (ho187 P) .nil .nil) .nil) (.node (ho148 P) .nil .nil))) (.node (ho36 P) (.node (ho55 P) (.node (ho99 P) (.node (W.boot_o_7 P) .nil .nil) .nil) (.node (ho135 P) .nil .nil)) (.node (ho81 P) (.node (ho117 P) .nil .nil) (.node (W.boot_o_8 P) .nil .nil))))) (.node (ho3 P) (.node (ho10 P) (.node (W.boot_o_7 P) (.node (W.boot_o_7 P) (.node (ho87 P) (.node (ho167 P) .nil .nil) .nil) (.node (W.boot_o_7 P) .nil .nil)) (.node (ho68 P) (.node (W.boot_o_7 P) (.node (W.boot_o_7 P) .nil .nil) .nil) (.node (ho144 P) .nil .nil))) (.node (ho33 P) (.node (ho52 P) (.node (W.boot_o_8 P) (.node (W.boot_o_8 P) .nil .nil) .nil) (.node (W.boot_o_7 P) .nil .nil)) (.node (ho78 P) (.node (ho115 P) .nil .nil) (.node (ho156 P) .nil .nil)))) (.node (ho18 P) (.node (ho28 P) (.node (W.boot_o_8 P) (.node (ho92 P) (.node (W.boot_o_7 P) .nil .nil) .nil) (.node (ho129 P) .nil .nil)) (.node (ho74 P) (.node (W.boot_o_7 P) (.node (W.boot_o_8 P) .nil .nil) .nil) (.node (W.boot_o_7 P) .nil .nil))) (.node (ho39 P) (.node (ho59 P) (.node (ho101 P) (.node (ho181 P) .nil .nil) .nil) (.node (W.boot_o_8 P) .nil .nil)) (.node (W.boot_o_7 P) (.node (ho119 P) .nil .nil) (.node (ho161 P) .nil .nil)))))) (.node (W.boot_o_5 P) (.node (W.boot_o_9 P) (.node (ho8 P) (.node (W.boot_o_8 P) (.node (ho42 P) (.node (ho86 P) (.node (ho165 P) .nil .nil) .nil) (.node (W.boot_o_8 P) .nil .nil)) (.node (ho66 P) (.node (W.boot_o_8 P) (.node (ho184 P) .nil .nil) .nil) (.node (ho142 P) .nil .nil))) (.node (W.boot_o_7 P) (.node (W.boot_o_7 P) (.node (ho96 P) (.node (ho175 P) .nil .nil) .nil) (.node (ho132 P) .nil .nil)) (.node (W.boot_o_7 P) (.node (ho113 P) .nil .nil) (.node (ho155 P) .nil .nil)))) (.node (ho16 P) (.node (ho27 P) (.node (ho47 P) (.node (W.boot_o_7 P) (.node (ho170 P) .nil .nil) .nil) (.node (ho127 P) .nil .nil)) (.node (W.boot_o_7 P) (.node (W.boot_o_8 P) (.node (ho189 P) .nil .nil) .nil) (.node (W.boot_o_8 P) .nil .nil))) (.node (ho37 P) (.node (ho57 P) (.node (W.boot_o_7 P) (.node (ho179 P) .nil .nil) .nil) (.node (ho137 P) .nil .nil)) (.node (W.boot_o_8 P) (.node (W.boot_o_7 P) .nil .nil) (.node (W.boot_o_7 P) .nil .nil))))) (.node (ho5 P) (.node (ho12 P) (.node (ho25 P) (.node (ho44 P) (.node (ho89 P) (.node (W.boot_o_8 P) .nil .nil) .nil) (.node (ho125 P) .nil .nil)) (.node (W.boot_o_6 P) (.node (ho107 P) (.node (ho186 P) .nil .nil) .nil) (.node (ho146 P) .nil .nil))) (.node (W.boot_o_7 P) (.node (ho53 P) (.node (W.boot_o_7 P) (.node (ho177 P) .nil .nil) .nil) (.node (ho134 P) .nil .nil)) (.node (ho79 P) (.node (W.boot_o_8 P) .nil .nil) (.node (ho158 P) .nil .nil)))) (.node (ho150 P) (.node (ho30 P) (.node (W.boot_o_7 P) (.node (W.boot_o_7 P) (.node (ho172 P) .nil .nil) .nil) (.node (W.boot_o_8 P) .nil .nil)) (.node (ho75 P) (.node (ho111 P) (.node (ho191 P) .nil .nil) .nil) (.node (ho153 P) .nil .nil))) (.node (W.boot_o_8 P) (.node (ho61 P) (.node (ho102 P) (.node (W.boot_o_8 P) .nil .nil) .nil) (.node (W.boot_o_7 P) .nil .nil)) (.node (ho84 P) (.node (ho120 P) .nil .nil) (.node (W.boot_o_7 P) .nil .nil))))))) (.node (ho1 P) (.node (W.boot_o_4 P) (.node (W.boot_o_8 P) (.node (ho7 P) (.node (W.boot_o_7 P) (.node (ho41 P) (.node (W.boot_o_8 P) (.node (ho164 P) .nil .nil) .nil) (.node (W.boot_o_7 P) .nil .nil)) (.node (W.boot_o_6 P) (.node (W.boot_o_7 P) (.node (ho183 P) .nil .nil) .nil) (.node (ho141 P) .nil .nil))) (.node (ho31 P) (.node (ho51 P) (.node (ho95 P) (.node (ho174 P) .nil .nil) .nil) (.node (ho131 P) .nil .nil)) (.node (ho66 P) (.node (W.boot_o_8 P) .nil .nil) (.node (W.boot_o_8 P) .nil .nil)))) (.node (ho15 P) (.node (W.boot_o_8 P) (.node (ho46 P) (.node (ho90 P) (.node (ho169 P) .nil .nil) .nil) (.node (W.boot_o_8 P) .nil .nil)) (.node (ho71 P) (.node (W.boot_o_7 P) (.node (ho188 P) .nil .nil) .nil) (.node (W.boot_o_7 P) .nil .nil))) (.node (W.boot_o_7 P) (.node (ho56 P) (.node (ho100 P) (.node (W.boot_o_8 P) .nil .nil) .nil) (.node (ho136 P) .nil .nil)) (.node (W.boot_o_7 P) (.node (ho118 P) .nil .nil) (.node (ho159 P) .nil .nil))))) (.node (ho4 P) (.node (ho11 P) (.node (ho24 P) (.node (W.boot_o_8 P) (.node (ho88 P) (.node (W.boot_o_7 P) .nil .nil) .nil) (.node (ho124 P) .nil .nil)) (.node (ho69 P) (.node (ho106 P) (.node (W.boot_o_8 P) .nil .nil) .nil) (.node (ho145 P) .nil .nil))) (.node (ho34 P) (.node (W.boot_o_7 P) (.node (ho97 P) (.node (ho176 P) .nil .nil) .nil) (.node (W.boot_o_8 P) .nil .nil)) (.node (W.boot_o_7 P) (.node (W.boot_o_7 P) .nil .nil) (.node (ho157 P) .nil .nil)))) (.node (W.boot_o_7 P) (.node (ho29 P) (.node (ho48 P) (.node (ho93 P) (.node (W.boot_o_8 P) .nil .nil) .nil) (.node (W.boot_o_7 P) .nil .nil)) (.node (W.boot_o_7 P) (.node (ho110 P) (.node (ho190 P) .nil .nil) .nil) (.node (ho152 P) .nil .nil))) (.node (W.boot_o_7 P) (.node (ho60 P) (.node (W.boot_o_7 P) (.node (W.boot_o_7 P) .nil .nil) .nil) (.node (ho138 P) .nil .nil)) (.node (ho83 P) (.node (W.boot_o_7 P) .nil .nil) (.node (ho162 P) .nil .nil)))))) (.node (W.boot_o_6 P) (.node (W.boot_o_10 P) (.node (ho9 P) (.node (ho23 P) (.node (ho43 P) (.node (W.boot_o_7 P) (.node (ho166 P) .nil .nil) .nil) (.node (ho123 P) .nil .nil)) (.node (ho67 P) (.node (ho105 P) (.node (ho185 P) .nil .nil) .nil) (.node (ho143 P) .nil .nil))) (.node (ho32 P) (.node (W.boot_o_8 P) (.node (W.boot_o_7 P) (.node (W.boot_o_7 P) .nil .nil) .nil) (.node (ho133 P) .nil .nil)) (.node (W.boot_o_8 P) (.node (ho114 P) .nil .nil) (.node (W.boot_o_7 P) .nil .nil)))) (.node (ho17 P) (.node (W.boot_o_7 P) (.node (W.boot_o_7 P) (.node (ho91 P) (.node (ho171 P) .nil .nil) .nil) (.node (ho128 P) .nil .nil)) (.node (ho35 P) (.node (ho109 P) (.node (W.boot_o_7 P) .nil .nil) .nil) (.node (ho151 P) .nil .nil))) (.node (ho38 P) (.node (ho58 P) (.node (W.boot_o_8 P) (.node (ho180 P) .nil .nil) .nil) (.node (W.boot_o_7 P) .nil .nil)) (.node (ho82 P) (.node (W.boot_o_8 P) .nil .nil) (.node (ho160 P) .nil .nil))))) (.node (ho6 P) (.node (ho13 P) (.node (ho26 P) (.node (W.boot_o_7 P) (.node (W.boot_o_7 P) (.node (ho168 P) .nil .nil) .nil) (.node (ho126 P) .nil .nil)) (.node (ho66 P) (.node (ho108 P) (.node (W.boot_o_7 P) .nil .nil) .nil) (.node (ho147 P) .nil .nil))) (.node (ho35 P) (.node (ho54 P) (.node (ho98 P) (.node (ho178 P) .nil .nil) .nil) (.node (W.boot_o_7 P) .nil .nil)) (.node (ho80 P) (.node (ho116 P) .nil .nil) (.node (W.boot_o_7 P) .nil .nil)))) (.node (ho19 P) (.node (W.boot_o_7 P) (.node (ho49 P) (.node (W.boot_o_8 P) (.node (W.boot_o_7 P) .nil .nil) .nil) (.node (ho130 P) .nil .nil)) (.node (ho76 P) (.node (ho112 P) (.node (ho192 P) .nil .nil) .nil) (.node (ho154 P) .nil .nil))) (.node (ho40 P) (.node (ho62 P) (.node (ho103 P) (.node (ho182 P) .nil .nil) .nil) (.node (ho139 P) .nil .nil)) (.node (ho85 P) (.node (ho121 P) .nil .nil) (.node (W.boot_o_8 P) .nil .nil))))))))
noncomputable def life_f : Life := { }
noncomputable def drawn_f : Drawn := { }
noncomputable def gens_f : Array GenState := #[]
noncomputable def toks_f : Nat := 683
noncomputable def heap_f (P : Params) : Heap := ⟨⟨[W.boot_o_0 P, ho0 P, ho1 P, ho149 P, W.boot_o_4 P, W.boot_o_5 P, W.boot_o_6 P, W.boot_o_7 P, W.boot_o_8 P, W.boot_o_9 P, W.boot_o_10 P, ho3 P, ho4 P, ho5 P, ho6 P, W.boot_o_7 P, ho7 P, ho8 P, ho9 P, ho10 P, ho11 P, ho12 P, ho13 P, ho14 P, ho15 P, ho16 P, ho17 P, ho18 P, W.boot_o_7 P, ho150 P, ho19 P, ho20 P, W.boot_o_7 P, W.boot_o_8 P, ho23 P, W.boot_o_7 P, ho24 P, ho25 P, ho26 P, W.boot_o_7 P, W.boot_o_8 P, ho27 P, W.boot_o_7 P, ho28 P, ho29 P, ho30 P, W.boot_o_7 P, W.boot_o_8 P, ho31 P, W.boot_o_7 P, ho32 P, ho33 P, ho34 P, W.boot_o_7 P, ho35 P, ho36 P, W.boot_o_7 P, ho37 P, ho38 P, ho39 P, W.boot_o_7 P, W.boot_o_8 P, ho40 P, W.boot_o_7 P, ho41 P, ho42 P, ho43 P, W.boot_o_7 P, W.boot_o_8 P, ho44 P, W.boot_o_7 P, ho45 P, ho46 P, ho47 P, W.boot_o_7 P, W.boot_o_8 P, ho48 P, W.boot_o_7 P, ho49 P, ho50 P, ho51 P, W.boot_o_7 P, W.boot_o_8 P, ho52 P, W.boot_o_7 P, ho53 P, ho54 P, ho55 P, ho56 P, ho57 P, ho58 P, ho59 P, ho60 P, ho61 P, ho62 P, ho65 P, W.boot_o_6 P, ho66 P, ho67 P, ho68 P, ho69 P, W.boot_o_6 P, ho66 P, ho70 P, ho71 P, W.boot_o_7 P, ho35 P, ho74 P, W.boot_o_7 P, ho75 P, ho76 P, ho77 P, ho66 P, W.boot_o_7 P, W.boot_o_8 P, ho78 P, W.boot_o_7 P, ho79 P, ho80 P, ho81 P, W.boot_o_7 P, W.boot_o_8 P, ho82 P, W.boot_o_7 P, ho83 P, ho84 P, ho85 P, W.boot_o_7 P, W.boot_o_8 P, ho86 P, W.boot_o_7 P, ho87 P, ho88 P, ho89 P, W.boot_o_7 P, W.boot_o_8 P, ho90 P, W.boot_o_7 P, ho91 P, ho92 P, ho93 P, W.boot_o_7 P, W.boot_o_8 P, ho94 P, ho95 P, ho96 P, W.boot_o_7 P, W.boot_o_8 P, ho97 P, W.boot_o_7 P, ho98 P, ho99 P, ho100 P, W.boot_o_7 P, W.boot_o_8 P, ho101 P, W.boot_o_7 P, ho102 P, ho103 P, ho104 P, W.boot_o_7 P, W.boot_o_8 P, ho105 P, W.boot_o_7 P, ho106 P, ho107 P, ho108 P, ho66 P, W.boot_o_7 P, W.boot_o_8 P, ho109 P, W.boot_o_7 P, ho110 P, ho111 P, ho112 P, W.boot_o_7 P, W.boot_o_8 P, ho113 P, ho114 P, ho115 P, W.boot_o_7 P, W.boot_o_8 P, ho116 P, ho117 P, ho118 P, W.boot_o_7 P, W.boot_o_8 P, ho119 P, W.boot_o_7 P, ho120 P, ho121 P, ho122 P, W.boot_o_7 P, W.boot_o_8 P, ho123 P, W.boot_o_7 P, ho124 P, ho125 P, ho126 P, W.boot_o_7 P, W.boot_o_8 P, ho127 P, ho128 P, ho129 P, W.boot_o_7 P, W.boot_o_8 P, ho130 P, W.boot_o_7 P, ho131 P, ho132 P, ho133 P, W.boot_o_7 P, W.boot_o_8 P, ho134 P, W.boot_o_7 P, ho135 P, ho136 P, ho137 P, W.boot_o_7 P, W.boot_o_8 P, ho138 P, W.boot_o_7 P, ho139 P, ho140 P, ho141 P, ho142 P, ho143 P, ho144 P, ho145 P, ho146 P, ho147 P, ho148 P, W.boot_o_7 P, W.boot_o_8 P, ho151 P, W.boot_o_7 P, ho152 P, ho153 P, ho154 P, W.boot_o_7 P, W.boot_o_8 P, ho155 P, W.boot_o_7 P, ho156 P, ho157 P, ho158 P, W.boot_o_7 P, W.boot_o_8 P, ho159 P, W.boot_o_7 P, ho160 P, ho161 P, ho162 P, W.boot_o_7 P, W.boot_o_8 P, ho163 P, ho164 P, ho165 P, ho166 P, ho167 P, W.boot_o_7 P, W.boot_o_8 P, ho168 P, W.boot_o_7 P, ho169 P, ho170 P, ho171 P, W.boot_o_7 P, W.boot_o_8 P, ho172 P, W.boot_o_7 P, ho173 P, ho174 P, ho175 P, W.boot_o_7 P, W.boot_o_8 P, ho176 P, ho177 P, ho178 P, W.boot_o_7 P, W.boot_o_8 P, ho179 P, ho180 P, ho181 P, W.boot_o_7 P, W.boot_o_8 P, ho182 P, W.boot_o_7 P, ho183 P, ho184 P, ho185 P, W.boot_o_7 P, W.boot_o_8 P, ho186 P, W.boot_o_7 P, ho187 P, ho188 P, ho189 P, W.boot_o_7 P, W.boot_o_8 P, ho190 P, ho191 P, ho192 P]⟩, life_f⟩
noncomputable def hEnv : Env := { scope := PySem.Challenge.pw_to0068_01.main.scope, locals := mainNs, globals := mainNs, cells := [], code := .ref 30, frame := some 31 }
noncomputable def hC : Code := .body (behindTheImports PySem.Challenge.pw_to0068_01) hEnv
noncomputable def hB : List Frame := [topFrame ⟨0, 0, 0, 0⟩]
noncomputable def sts (a n : Nat) : List Stmt := ((behindTheImports PySem.Challenge.pw_to0068_01).drop a).take n
noncomputable def S_b (w : World) (os : OsState) : SharedT := ⟨tree_b w.params, 32, life_b, gens_b, drawn_b, toks_b, os⟩
noncomputable def S_c6 (w : World) (os : OsState) : SharedT := ⟨tree_c6 w.params, 95, life_c6, gens_c6, drawn_c6, toks_c6, os⟩
noncomputable def S_c9 (w : World) (os : OsState) : SharedT := ⟨tree_c9 w.params, 105, life_c9, gens_c9, drawn_c9, toks_c9, os⟩
noncomputable def S_c10 (w : World) (os : OsState) : SharedT := ⟨tree_c10 w.params, 232, life_c10, gens_c10, drawn_c10, toks_c10, os⟩
noncomputable def S_c23 (w : World) (os : OsState) : SharedT := ⟨tree_c23 w.params, 303, life_c23, gens_c23, drawn_c23, toks_c23, os⟩
noncomputable def s_0 (w : World) (os : OsState) : Shared := ⟨heap_0 w.params, gens_0, drawn_0, toks_0, os⟩
noncomputable def s_a (w : World) (os : OsState) : Shared := ⟨heap_a w.params, gens_a, drawn_a, toks_a, os⟩
noncomputable def s_f (w : World) (os : OsState) : Shared := ⟨heap_f w.params, gens_f, drawn_f, toks_f, os⟩
theorem h_open (w : World) : (fencedOpening treeTable PySem.Challenge.pw_to0068_01 w 3460).map (fun s => (s.heap, s.gens, s.drawn, s.toks)) = some (heap_0 w.params, gens_0, drawn_0, toks_0) := by kernel_rfl
theorem h_size (w : World) : ((heap_0 w.params).isNs mainGlobals && gens_0.size == 0, (heap_0 w.params).objs.size, (heap_0 w.params).nsMap mainGlobals "__annotations__") = (true, 28, some (.ref 6)) := by kernel_rfl
theorem h_pre (w : World) (os : OsState) : topGo treeTable PySem.Challenge.pw_to0068_01 w 28 (some (.ref 6)) 12 (s_0 w os) (topStub PySem.Challenge.pw_to0068_01) = some (s_a w os, ⟨denote treeTable hC, hC, ⟨0, 0, 0, 0⟩, hB⟩) := by kernel_rfl
theorem h_block (w : World) (os : OsState) : segRun treeTable PySem.Challenge.pw_to0068_01 w 28 (some (.ref 6)) 1 1 (s_a w os) (blockOf (behindTheImports PySem.Challenge.pw_to0068_01) hEnv hC ⟨0, 0, 0, 0⟩ hB) = some (.next, (S_b w os).abs, hC, ⟨0, 0, 0, 0⟩) := by kernel_rfl
theorem h_fin (w : World) (os : OsState) : topRun treeTable PySem.Challenge.pw_to0068_01 w 28 (some (.ref 6)) 2 (S_c23 w os).abs ⟨doneF .next, hC, ⟨238, 0, 255, 48⟩, hB⟩ = some (s_f w os) := by kernel_rfl
theorem h_seg0 (w : World) (os : OsState) : segRunT treeTable PySem.Challenge.pw_to0068_01 w 28 (some (.ref 6)) 1 442 (S_b w os) (piecesOf (sts 0 7) hEnv hC ⟨0, 0, 0, 0⟩ hB) = some (.next, S_c6 w os, hC, ⟨31, 0, 73, 35⟩) := by kernel_rfl
theorem h_seg1 (w : World) (os : OsState) : segRunT treeTable PySem.Challenge.pw_to0068_01 w 28 (some (.ref 6)) 1 156 (S_c6 w os) (piecesOf (sts 7 3) hEnv hC ⟨31, 0, 73, 35⟩ hB) = some (.next, S_c9 w os, hC, ⟨76, 0, 76, 20⟩) := by kernel_rfl
theorem h_seg2 (w : World) (os : OsState) : segRunT treeTable PySem.Challenge.pw_to0068_01 w 28 (some (.ref 6)) 1 729 (S_c9 w os) (piecesOf (sts 10 1) hEnv hC ⟨76, 0, 76, 20⟩ hB) = some (.next, S_c10 w os, hC, ⟨77, 0, 151, 16⟩) := by kernel_rfl
theorem h_seg3 (w : World) (os : OsState) : segRunT treeTable PySem.Challenge.pw_to0068_01 w 28 (some (.ref 6)) 1 344 (S_c10 w os) (piecesOf (sts 11 13) hEnv hC ⟨77, 0, 151, 16⟩ hB) = some (.next, S_c23 w os, hC, ⟨238, 0, 255, 48⟩) := by kernel_rfl
theorem h_split : behindTheImports PySem.Challenge.pw_to0068_01 = sts 0 7 ++ (sts 7 3 ++ (sts 10 1 ++ (sts 11 13 ++ []))) := by kernel_rfl
theorem h_rest (w : World) (os : OsState) (b : List Stmt) (e : b = sts 0 7 ++ (sts 7 3 ++ (sts 10 1 ++ (sts 11 13 ++ [])))) :
    topRun treeTable PySem.Challenge.pw_to0068_01 w 28 (some (.ref 6)) (442 + (156 + (729 + (344 + 2)))) (S_b w os).abs (restOf b hEnv hC ⟨0, 0, 0, 0⟩ hB) = some (s_f w os) := by
  subst e
  exact piece_app (segRun_of (h_seg0 w os)) (piece_app (segRun_of (h_seg1 w os)) (piece_app (segRun_of (h_seg2 w os)) (piece_app (segRun_of (h_seg3 w os)) (piece_nil (h_fin w os)))))
theorem h_run (w : World) (os : OsState) : topRun treeTable PySem.Challenge.pw_to0068_01 w 28 (some (.ref 6)) (12 + (1 + (442 + (156 + (729 + (344 + 2)))))) (s_0 w os) (topStub PySem.Challenge.pw_to0068_01) = some (s_f w os) :=
  go_top (h_pre w os) (piece_block (h_block w os) (h_rest w os _ h_split))
theorem h_left {q : Program} {loose : List Str} {Xt : Shared → Bool} {α : Type} {Yf : Shared → α} {Ya : World → α}
    (looks : ∀ w : World, (fun os => ((staticsOk (importedModules PySem.Challenge.pw_to0068_01.main.body) (heap_0 w.params) (heap_f w.params) && namesBound PySem.Challenge.pw_to0068_01 (heap_f w.params) && gensDone ⟨heap_f w.params, gens_f, drawn_f, toks_f, os⟩ && laidKept (heap_0 w.params) (heap_f w.params)),
        openSeen q loose (importedModules PySem.Challenge.pw_to0068_01.main.body) Xt true ⟨heap_f w.params, gens_f, drawn_f, toks_f, os⟩, Yf ⟨heap_f w.params, gens_f, drawn_f, toks_f, os⟩)) = fun _ => (true, openGood q loose, Ya w)) : LeftO PySem.Challenge.pw_to0068_01 q loose Xt Yf Ya 3460 :=
  LeftO.of_pieces (H₀ := heap_0) (H₁ := heap_f) (gs₀ := gens_0) (gs₁ := gens_f) (d₀ := drawn_0) (d₁ := drawn_f) (k₀ := toks_0) (k₁ := toks_f) (m₀ := 28) (ann := some (.ref 6)) h_open h_size h_run (by rfl) looks
noncomputable def view : Program := { PySem.Challenge.pw_to0068_01 with main := { PySem.Challenge.pw_to0068_01.main with body := (PySem.Challenge.pw_to0068_01.main.body.zipIdx.filter fun x => ![2, 6, 8, 12, 16].contains x.2).map (·.1) } }
local macro_rules | `(tactic| o_law) => `(tactic| refine holds_law Mine.ws fun said => ?_)
local macro_rules | `(tactic| o_head $H) => `(tactic| (refine holds_open (q := Mine.view) (loose := ["_name_disallowed_re", "_value_disallowed_re"]) (Xt := fun s => xlAt Mine.view [] s && recOk (RowW.records (OpenRow.toRowW (OpenLaw.row PySem.Challenge.rw_to0068_01))) s) (XP := XL Mine.view []) (Yf := Hook.obs $H) (Ya := Hook.val $H) (YP := Hook.says $H) (N := 3460) ?hl (Hook.of $H) (Hook.keeps $H) (fun s e => xl_of s (Bool.and_eq_true_iff.mp e).1) XL.keeps (by rfl) (by rfl) (by rfl) (fun s e => recFacts_of (Bool.and_eq_true_iff.mp e).2) (by rfl) (by assumption) (by decide +kernel) ⟨rfl, rfl, rfl, rfl, rfl, by decide +kernel⟩ ?hw ?hc; (case hl => exact Mine.h_left (by intro w; kernel_rfl))))
open_top hd for PySem.Challenge.rw_to0068_01
end Mine
namespace Mine
theorem fill_all : PySem.Challenge.rw_to0068_01 = PySem.Challenge.rw_to0068_01 ∧ hd.heap_1 = hd.heap_1 := by
  k_fill
  exact ⟨rfl, rfl⟩
end Mine

theorem Mine.rs_pre : True ∧ True := by
  w_top off
  try (walk1; fail)
  exact ⟨True.intro, True.intro⟩

namespace Mine
noncomputable abbrev PR := PySem.Challenge.pw_to0068_01
theorem Upd.mem {d : Addr} {o o' : Obj} {a b : List (Addr × Obj)} (U : Upd d o o' a b) : (d, o) ∈ a := by
  obtain ⟨pre, post, rfl, _⟩ := U.split
  exact List.mem_append.mpr (.inr (.head _))
structure Cx (kk : Nat) (w : World) (A A₀ : Around) (base h₀ : Heap) (env : Env) (outer : List Env) (L : Addr) (mg mb : Str → Option Value) (loose : List Str) (mean : ExcName → Option Value) : Prop where
  B : Below A₀ base outer h₀
  X : (hd.heap_1 w.params).In h₀
  T : Top topProg loose mean mg mb h₀
  hA : A.frames = some (env :: outer)
  hf : env.frame = some L
  hke : env.scope.kind = .function
  hdep : A.depth + kk < recursionLimit
  hun : A.units + 4 * kk < cLine
  hh : A.handled = none
section
variable {prog : Program} {w : World} {A : Around} {E : Value → Shared → Prop} {s : Shared} {h₀ : Heap} {L D : Addr} {m : Str → Option Value} {news news' : List (Addr × Obj)}
theorem truthyL {a : Addr} {vs : List Value} {n : Nat} {Q : Bool → Shared → Prop} (N : News h₀ L s.heap news) (hm : (a, listOf vs.toArray n) ∈ news) (hfit : vs.length < 2 ^ 62)
    (h : Q (!vs.isEmpty) { s with toks := s.toks + 1 + 1 }) : wpAny (model prog w) A (truthy (.ref a)) Q E s := kgr_truthy N hm rfl rfl hfit h
theorem truthyC {a : Addr} {v : Value} {vs : List Value} {n : Nat} {Q : Bool → Shared → Prop} (N : News h₀ L s.heap news) (hm : (a, listOf (v :: vs).toArray n) ∈ news) (hfit : (v :: vs).length < 2 ^ 62)
    (h : Q true { s with toks := s.toks + 1 + 1 }) : wpAny (model prog w) A (truthy (.ref a)) Q E s := kgr_truthy N hm rfl rfl hfit h
theorem truthyN {a : Addr} {n : Nat} {Q : Bool → Shared → Prop} (N : News h₀ L s.heap news) (hm : (a, listOf [].toArray n) ∈ news)
    (h : Q false { s with toks := s.toks + 1 + 1 }) : wpAny (model prog w) A (truthy (.ref a)) Q E s := kgr_truthy N hm rfl rfl (Nat.zero_lt_succ _) h
theorem pop0L {v : Value} {rest : List Value} {n : Nat} {u : Tok} {Q : Value → Shared → Prop} (F : Fr h₀ L s.heap m) (N : News h₀ L s.heap news) (U : Upd D (listOf (v :: rest).toArray n) (listOf rest.toArray (n + 1)) news news')
    (hz : rest.length ≤ 100000) (h : ∀ h', Fr h₀ L h' m → News h₀ L h' news' → Q v { s with heap := h' }) : wpAny (model prog w) A (call (.builtin "list.pop") [.ref D, .int 0 u]) Q E s := by
  refine kl_popAt (p := []) (q := rest) (y := v) (k := 0) F N rfl ?_ rfl U ?_ h
  · unfold seqIndex?
    simp
  · rw [sizeLine_eq]
    simp only [List.length_cons]
    omega
end
theorem frames_deep {A : Around} {e : Env} {l : List Env} (h : A.frames = some l) : (A.deeper e).frames = some (e :: l) := by
  show A.frames.map _ = _
  rw [h]; rfl
theorem Cx.mk' {kk : Nat} {w : World} {A A₁ : Around} {base h₀ : Heap} {env : Env} {outer : List Env} {L : Addr} {mg mb : Str → Option Value} {loose : List Str} {mean : ExcName → Option Value}
    (B : Below A base outer h₀) (X : (hd.heap_1 w.params).In h₀) (T : Top topProg loose mean mg mb h₀) (hA : A.frames = some outer) (hf : env.frame = some L) (hke : env.scope.kind = .function)
    (hdep : A.depth + kk < recursionLimit) (hun : A.units + 4 * kk < cLine) (hh : A.handled = none) (h1 : 1 ≤ kk)
    (hA₁ : A₁ = A.deeper env ∨ A₁ = (A.deeper env).in1 := by first | exact .inl rfl | exact .inr rfl) : Cx (kk - 1) w A₁ A base h₀ env outer L mg mb loose mean := by
  rcases hA₁ with rfl | rfl
  · exact ⟨B, X, T, frames_deep hA, hf, hke, by show A.depth + 1 + (kk - 1) < _; omega, by show A.units + 3 + 4 * (kk - 1) < _; omega, hh⟩
  · exact ⟨B, X, T, frames_deep hA, hf, hke, by show A.depth + 1 + (kk - 1) < _; omega, by show A.units + 3 + 1 + 4 * (kk - 1) < _; omega, hh⟩
theorem two_back {x y : Str} (m : Str → Option Value) : m = fun z => if z = x then m x else if z = y then m y else m z := by
  funext z
  by_cases h1 : z = x
  · subst h1; simp
  · by_cases h2 : z = y
    · subst h2; simp [h1]
    · simp [h1, h2]
theorem two_put {x y : Str} (m : Str → Option Value) (a b c d : Option Value) : (fun z => if z = x then a else if z = y then b else if z = x then c else if z = y then d else m z) = fun z => if z = x then a else if z = y then b else m z := by
  funext z
  by_cases h1 : z = x
  · simp [h1]
  · by_cases h2 : z = y
    · simp [h1, h2]
    · simp [h1, h2]
theorem one_back {x : Str} (m : Str → Option Value) : m = fun z => if z = x then m x else m z := by
  funext z
  by_cases h1 : z = x
  · subst h1; simp
  · simp [h1]
theorem one_put {x : Str} (m : Str → Option Value) (a b : Option Value) : (fun z => if z = x then a else if z = x then b else m z) = fun z => if z = x then a else m z := by
  funext z
  by_cases h1 : z = x <;> simp [h1]
theorem news_tl {h₀ h : Heap} {L : Addr} {p : Addr × Obj} {l : List (Addr × Obj)} (N : News h₀ L h (p :: l)) : News h₀ L h l := fun q hq => N q (.tail _ hq)
theorem ne_of_all {r : List (Addr × Obj)} {d c : Nat} (h : ∀ p ∈ r, @LT.lt Nat _ p.1 d) (hd : d ≤ c) : ∀ p ∈ r, p.1 ≠ c := fun p hp e => by
  have := h p hp
  rw [e] at this
  omega
theorem allLt_mem {d : Addr} {r : List (Addr × Obj)} (h : AllLt d r) : ∀ p ∈ r, @LT.lt Nat _ p.1 d := by
  induction r with
  | nil => intro p hp; cases hp
  | cons q r ih =>
    intro p hp
    rcases List.mem_cons.mp hp with e | hp
    · rw [e]; exact h.1
    · exact ih h.2 p hp

end Mine

theorem Mine.rs_loop : True ∧ True := by
  w_top off
  try (walk1; fail)
  exact ⟨True.intro, True.intro⟩

namespace Mine
-- needs: pre
section
variable {prog : Program} {w : World} {A : Around} {s : Shared} {env : Env} {h₀ : Heap}
theorem noErr {α : Type} {M : Model} {A : Around} {t : Sem α} {Q : α → Shared → Prop} {E : Value → Shared → Prop} {s : Shared} (h : wpAny M A t Q (fun _ _ => False) s) : wpAny M A t Q E s :=
  wpAny_mono h (fun _ _ x => x) fun _ _ x => x.elim
noncomputable def Turn (h₀ : Heap) (L : Addr) (wr : List Addr) (own : List (Addr × Obj)) (J : (Str → Option Value) → List (Addr × Obj) → Prop) (s : Shared) (Q : Flow → Shared → Prop) (f : Flow) (s₂ : Shared) : Prop :=
  match f with
  | .ret v => Q (.ret v) s₂
  | .brk => Q .next s₂
  | _ => ∃ h' tk m₂ news₂, s₂ = { s with heap := h', toks := tk } ∧ Fr h₀ L h' m₂ ∧ News h₀ L h' (own ++ news₂) ∧ (∀ p ∈ news₂, p.1 ∉ wr) ∧ J m₂ news₂
theorem Turn.next {L : Addr} {wr : List Addr} {own news₂ : List (Addr × Obj)} {J : (Str → Option Value) → List (Addr × Obj) → Prop} {Q : Flow → Shared → Prop} {h' : Heap} {tk : Nat} {m₂ : Str → Option Value}
    (F : Fr h₀ L h' m₂) (N : News h₀ L h' (own ++ news₂)) (hn : ∀ p ∈ news₂, p.1 ∉ wr) (hJ : J m₂ news₂) : Turn h₀ L wr own J s Q .next { s with heap := h', toks := tk } := ⟨h', tk, m₂, news₂, rfl, F, N, hn, hJ⟩
theorem Turn.cont {L : Addr} {wr : List Addr} {own news₂ : List (Addr × Obj)} {J : (Str → Option Value) → List (Addr × Obj) → Prop} {Q : Flow → Shared → Prop} {h' : Heap} {tk : Nat} {m₂ : Str → Option Value}
    (F : Fr h₀ L h' m₂) (N : News h₀ L h' (own ++ news₂)) (hn : ∀ p ∈ news₂, p.1 ∉ wr) (hJ : J m₂ news₂) : Turn h₀ L wr own J s Q .cont { s with heap := h', toks := tk } := ⟨h', tk, m₂, news₂, rfl, F, N, hn, hJ⟩
noncomputable def LoopW (prog : Program) (w : World) (A : Around) (h₀ : Heap) (env : Env) (target : Expr) (body : List Stmt) (Q : Flow → Shared → Prop) (it : Value) (s : Shared) : Prop :=
  ∃ (I : Addr) (fp wr : List Addr) (n : Nat) (P : Nat → Value → Prop) (St : Nat → Heap → Prop) (m : Str → Option Value) (news : List (Addr × Obj)) (J : Nat → (Str → Option Value) → List (Addr × Obj) → Prop),
    it = .ref I ∧ Walks prog w A I fp wr n P St ∧ env.locals ∉ fp ∧ (∀ b ∈ wr, h₀.get? b = none) ∧ (∀ p ∈ news, p.1 ∉ wr) ∧ St 0 s.heap ∧ Fr h₀ env.locals s.heap m ∧ News h₀ env.locals s.heap news ∧
    (∀ i (s' : Shared) v (Q' : Unit → Shared → Prop), P i v → St (i + 1) s'.heap → Q' () s' → wpAny (model prog w) A (letOwnedTupleGo target (.ref I) v) Q' (fun _ _ => False) s') ∧ J 0 m news ∧
    (∀ i v m₁ news₁ h tk own, i < n → P i v → J i m₁ news₁ → (∀ p ∈ news₁, p.1 ∉ wr) → (∀ p ∈ own, p.1 ∈ fp) → St (i + 1) h → Fr h₀ env.locals h m₁ → News h₀ env.locals h (own ++ news₁) → s.toks ≤ tk →
      wpAny (model prog w) A (assign target env v) (fun _ s₂ => wpAny (model prog w) A (execs body env) (Turn h₀ env.locals wr own (J (i + 1)) s Q) (fun _ _ => False) s₂) (fun _ _ => False) { s with heap := h, toks := tk }) ∧
    ∀ h' tk m' news', s.toks ≤ tk → Fr h₀ env.locals h' m' → News h₀ env.locals h' news' → (∀ p ∈ news', p.1 ∉ wr) → J n m' news' → Q .next { s with heap := h', toks := tk }
theorem code_walk {R : Result → Shared → Prop} {target : Expr} {body : List Stmt} {it : Value} (H : LoopW prog w A h₀ env target body (fun f s' => R (.ok f) s') it s) :
    codeAny (model prog w) A (.forLoop target it body [] env) R s := by
  obtain ⟨I, fp, wr, n, P, St, m, news, J, rfl, W, hLf, hwr, hnw, hst, F, N, hgo, h0, step, hR⟩ := H
  have hLw : env.locals ∉ wr := fun h => hLf (W.sub _ h)
  have old : ∀ b o, h₀.get? b = some o → b ∉ wr := fun b o e hb => by rw [hwr b hb] at e; cases e
  refine codeAny_forLoop_any
    (fun k s' => ∃ h' tk m' news' i, s' = { s with heap := h', toks := tk } ∧ St i h' ∧ Fr h₀ env.locals h' m' ∧ News h₀ env.locals h' news' ∧ (∀ p ∈ news', p.1 ∉ wr) ∧ J i m' news' ∧ i ≤ n ∧ k = n + 1 - i ∧ s.toks ≤ tk) ?_ (n + 1)
    ⟨s.heap, s.toks, m, news, 0, rfl, hst, F, N, hnw, h0, Nat.zero_le _, rfl, Nat.le_refl _⟩
  rintro k s' ⟨h', tk, m', news', i, rfl, hst', F', N', hnw', hJ, hi, rfl, htk⟩
  have next : ∀ h₁ : Heap, (∀ b o, b ∉ wr → h'.get? b = some o → h₁.get? b = some o) → Fr h₀ env.locals h₁ m' ∧ News h₀ env.locals h₁ news' := fun h₁ hk₁ =>
    ⟨⟨F'.ns.at' fun o e => hk₁ _ o hLw e, fun b o e => hk₁ b o (old b o e) (F'.keep b o e), F'.above⟩, fun p hp => ⟨hk₁ _ _ (hnw' p hp) (N' p hp).1, (N' p hp).2⟩⟩
  by_cases hlt : i < n
  · refine wpAny_with_toks (n := s.toks) htk (W.item i _ _ _ hlt hst' fun v h₁ tk₁ hP hst₁ hk₁ => fun htk₁ => ?_)
    obtain ⟨F₁, N₁⟩ := next h₁ hk₁
    have Nown : News h₀ env.locals h₁ (ownOf h₀ fp h₁) := news_ownOf hLf
    refine noErr (hgo i _ v _ hP hst₁ ?_)
    refine noErr (wpAny_mono (wpAny_toks_of (n := s.toks) htk₁ (step i v m' news' h₁ tk₁ (ownOf h₀ fp h₁) hlt hP hJ hnw' ownOf_sub hst₁ F₁ (Nown.append N₁) htk₁)) (fun _ s₂ h₂ => noErr (wpAny_mono (wpAny_toks_of (n := s.toks) h₂.1 h₂.2) (fun f s₃ h₃ => ?_) fun _ _ e => e.2)) fun _ _ e => e.2)
    obtain ⟨htk₃', h₃⟩ := h₃
    have fin : (∃ h' tk m₂ news₂, s₃ = { s with heap := h', toks := tk } ∧ Fr h₀ env.locals h' m₂ ∧ News h₀ env.locals h' (ownOf h₀ fp h₁ ++ news₂) ∧ (∀ p ∈ news₂, p.1 ∉ wr) ∧ J (i + 1) m₂ news₂) →
        ∃ m, m < n + 1 - i ∧ ∃ h' tk m' news' i, s₃ = { s with heap := h', toks := tk } ∧ St i h' ∧ Fr h₀ env.locals h' m' ∧ News h₀ env.locals h' news' ∧ (∀ p ∈ news', p.1 ∉ wr) ∧ J i m' news' ∧ i ≤ n ∧ m = n + 1 - i ∧ s.toks ≤ tk := by
      rintro ⟨h₃', tk₃, m₂, news₂, rfl, F₃, N₃, ha₃, hJ₃⟩
      refine ⟨n + 1 - (i + 1), by omega, h₃', tk₃, m₂, news₂, i + 1, rfl, ?_, F₃, N₃.right, ha₃, hJ₃, hlt, rfl, htk₃'⟩
      refine W.frame _ _ _ hst₁ fun b hb o e => ?_
      cases hn : h₀.get? b with
      | some o₀ =>
        have : o₀ = o := by have := F₁.keep b o₀ hn; rw [e] at this; exact (Option.some.inj this).symm
        exact this ▸ F₃.keep b o₀ hn
      | none => exact (N₃ _ (List.mem_append_left _ (mem_ownOf hb hn e))).1
    cases f with
    | ret v => exact h₃
    | brk => exact h₃
    | cont => exact fin h₃
    | next => exact fin h₃
  · have hin : i = n := by omega
    subst hin
    refine wpAny_with_toks (n := s.toks) htk (W.done _ _ _ hst' fun h₁ tk₁ hk₁ => fun htk₁ => wpAny_execs_nil ?_)
    obtain ⟨F₁, N₁⟩ := next h₁ hk₁
    exact hR h₁ tk₁ m' news' htk₁ F₁ N₁ hnw' hJ
theorem For_walk {E : Value → Shared → Prop} {Q : Flow → Shared → Prop} {target iter : Expr} {pos : Pos} {body : List Stmt}
    (h : wpAny (model prog w) A (eval iter env) (fun xv s₁ => wpAny (model prog w) A (pyIter xv) (fun it s₂ => LoopW prog w A h₀ env target body Q it s₂) (fun _ _ => False) s₁) (fun _ _ => False) s)
    (hs : ∀ x, foldedSetIterable iter env x = pure x := by intro _; rfl) : wpAny (model prog w) A (exec (.For target iter body [] pos) env) Q E s :=
  noErr (wpAny_For (wpAny_mono h (fun xv s₁ h₁ => wpAny_mono h₁ (fun it s₂ h₂ => code_walk (R := fun r s' => match r with | .ok f => Q f s' | .error e => cameBackBy (model prog w) A env (fun _ _ => False) e s') h₂) fun _ _ e => e) fun _ _ e => e) hs)

theorem For_walkF {E : Value → Shared → Prop} {Q : Flow → Shared → Prop} {target iter : Expr} {pos : Pos} {body : List Stmt} {m : Str → Option Value} (_F : Fr h₀ env.locals s.heap m)
    (h : wpAny (model prog w) A (eval iter env) (fun xv s₁ => wpAny (model prog w) A (pyIter xv) (fun it s₂ => LoopW prog w A h₀ env target body Q it s₂) (fun _ _ => False) s₁) (fun _ _ => False) s)
    (hs : ∀ x, foldedSetIterable iter env x = pure x) : wpAny (model prog w) A (exec (.For target iter body [] pos) env) Q E s := For_walk h hs
theorem fr_gap {L a : Addr} {h : Heap} {m : Str → Option Value} {news : List (Addr × Obj)} {o : Obj} (F : Fr h₀ L h m) (N : News h₀ L h news) (hm : (a, o) ∈ news) : a ≠ h.objs.size ∧ a ≠ L ∧ L ≠ h.objs.size :=
  ⟨Nat.ne_of_lt (Heap.lt_size (N _ hm).1), (N _ hm).2.1, Nat.ne_of_lt F.ns.lt⟩
/-- A loop over a list that the ledger names. -/
theorem loop_list {target : Expr} {body : List Stmt} {Q : Flow → Shared → Prop} {l : Addr} {its : Array Value} {n : Nat} {m : Str → Option Value} {news : List (Addr × Obj)} (J : (Str → Option Value) → List (Addr × Obj) → Nat → (Str → Option Value) → List (Addr × Obj) → Prop)
    (hh : A.handled = none) (F : Fr h₀ env.locals s.heap m) (N : News h₀ env.locals s.heap news) (hm : (l, listOf its n) ∈ news)
    (ht : (∃ x p, target = .Name x p) ∨ (∃ es k p, target = .Tuple es k p ∧ ∀ (i : Nat) v, its[i]? = some v → ∃ a, v = .ref a)) (h0 : J m news 0 m news)
    (step : ∀ i v m₁ news₁ h tk own I, its[i]? = some v → J m news i m₁ news₁ → (∀ p ∈ news₁, p.1 ≠ I) → (∀ p ∈ own, p.1 = I ∨ p.1 = l) → Fr h₀ env.locals h m₁ → News h₀ env.locals h (own ++ news₁) → s.toks ≤ tk →
      wpAny (model prog w) A (assign target env v) (fun _ s₂ => wpAny (model prog w) A (execs body env) (Turn h₀ env.locals [I] own (J m news (i + 1)) s Q) (fun _ _ => False) s₂) (fun _ _ => False) { s with heap := h, toks := tk })
    (done : ∀ h' tk m' news', s.toks ≤ tk → Fr h₀ env.locals h' m' → News h₀ env.locals h' news' → J m news its.size m' news' → Q .next { s with heap := h', toks := tk }) :
    wpAny (model prog w) A (pyIter (.ref l)) (fun it s₂ => LoopW prog w A h₀ env target body Q it s₂) (fun _ _ => False) s := by
  obtain ⟨g1, g2, g3⟩ := fr_gap F N hm
  refine wpAny_pyIter_list (N.isList hm) ?_
  refine ⟨s.heap.objs.size, _, _, its.size, _, _, m, news, J m news, rfl, Walks.list hh s.heap.objs.size l g1 its, ?_, ?_, ?_, ⟨⟨_, Heap.get?_push_size _ rfl, rfl, rfl⟩, (N.isList hm).at fun o e => Heap.get?_push_of_some _ e⟩, F.push _,
    (fun p hp => ⟨Heap.get?_push_of_some _ (N p hp).1, (N p hp).2⟩), ?_, h0, ?_, ?_⟩
  · intro hb
    rcases List.mem_cons.mp hb with e | hb
    · exact g3 e
    · exact g2 (List.mem_singleton.mp hb).symm
  · intro b hb
    rw [List.mem_singleton.mp hb]
    cases q : h₀.get? s.heap.objs.size with
    | none => rfl
    | some o => exact absurd (Heap.lt_size (F.keep _ _ q)) (Nat.lt_irrefl _)
  · intro p hp hb
    exact absurd (Heap.lt_size (N p hp).1) ((List.mem_singleton.mp hb) ▸ Nat.lt_irrefl _)
  · intro i s' v Q' hP hst hQ
    rcases ht with ⟨x, p, rfl⟩ | ⟨es, k, p, rfl, hv⟩
    · exact wpAny_pure hQ
    · obtain ⟨a, rfl⟩ := hv _ _ hP
      exact wpAny_letOwnedTupleGo_listiter hst.1 hQ
  · intro i v m₁ news₁ h tk own hi hP hJ hn ho hst F₁ N₁ htk
    exact step i v m₁ news₁ h tk own s.heap.objs.size hP hJ (fun p hp e => hn p hp (by rw [e]; exact .head _)) (fun p hp => by
      rcases List.mem_cons.mp (ho p hp) with e | e
      · exact .inl e
      · exact .inr (List.mem_singleton.mp e)) F₁ N₁ htk
  · intro h' tk m' news' htk F' N' _ hJ
    exact done h' tk m' news' htk F' N' hJ

theorem ints_at {vs : List Value} {ns : List Int} (hi : IntsAre vs ns) {i : Nat} {v : Value} (h : vs[i]? = some v) : ∃ k t, ns[i]? = some k ∧ v = .int k t := by
  have hl : i < vs.length := (List.getElem?_eq_some_iff.mp h).1
  have hl' : i < ns.length := by rw [← hi.length]; exact hl
  obtain ⟨t, ht⟩ := hi.get i ns[i] (by simp [hl'])
  exact ⟨ns[i], t, by simp [hl'], by rw [h] at ht; exact Option.some.inj ht⟩
theorem drop_at {α : Type} {l : List α} {i : Nat} {k : α} (h : l[i]? = some k) : l.drop i = k :: l.drop (i + 1) := by
  obtain ⟨hl, e⟩ := List.getElem?_eq_some_iff.mp h
  rw [← e]; exact List.drop_eq_getElem_cons hl
end

end Mine
local macro_rules | `(tactic| k_mem) => `(tactic| assumption)
local macro_rules | `(tactic| k_upd) => `(tactic| assumption)
local macro_rules | `(tactic| k_upd) => `(tactic| (refine Upd.head ?_; assumption))
local macro_rules | `(tactic| k_units) => `(tactic| first | exact Nat.le_of_ble_eq_true rfl | (simp only [Around.in1_units, Around.deeper_units, Around.mark_units]; omega) | omega)
local macro_rules | `(tactic| walk_at "getAttr ref") => `(tactic| (k_here; k_dflt (refine' get_own ?k1 ?k2 ?k3 ?k4 ?k5 ?k6 ?k7 ?k8 ?k9 ?_; (case k1 => k_asm); (case k2 => k_asm); (case k3 => k_inst); (case k4 => k_is); (case k5 => k_is); (case k6 => k_is); (case k7 => k_is); (case k8 => assumption); (case k9 => k_handed); k_whole)))
local macro_rules | `(tactic| walk_at "getMethod ref") => `(tactic| (k_here; (with_reducible show wpAny _ _ (getMethod (Value.ref _) (PySem.Str.ofString "append") _) _ _ _); k_dflt (refine' kl_method ?N ?m PySem.F.slot_list_append PySem.F.type_list_append ?_; (case N => k_asm); (case m => k_mem))))
local macro_rules | `(tactic| walk_at "m_size") => `(tactic| first | omega | (simp only [List.length_cons, List.length_nil, List.length_append, List.size_toArray, Array.size_push, sizeLine_eq]; omega))
local macro_rules | `(tactic| walk_at "truthy ref") => `(tactic| (k_here; k_dflt (refine' Mine.truthyL ?N ?m ?z ?_; (case N => k_asm); (case m => k_mem); (case z => walk_at "m_size"); k_whole)))
local macro_rules | `(tactic| walk_at "call builtin:list.pop") => `(tactic| (k_here; k_dflt (refine' Mine.pop0L ?F ?N ?U ?z ?_; (case F => k_asm); (case N => k_asm); (case U => k_upd); (case z => walk_at "m_size")); (intro h' F' N')))
local macro_rules | `(tactic| walk_at "truthy ref") => `(tactic| (k_here; k_dflt (refine' Mine.truthyN ?N ?m ?_; (case N => k_asm); (case m => k_mem); k_whole)))
local macro_rules | `(tactic| walk_at "truthy ref") => `(tactic| (k_here; k_dflt (refine' Mine.truthyC ?N ?m ?z ?_; (case N => k_asm); (case m => k_mem); (case z => walk_at "m_size"); k_whole)))
local macro_rules | `(tactic| walk_at "m_cx") => `(tactic| (refine' Mine.Cx.mk' ?B ?X ?T ?a ?hf ?hk ?d ?e ?f ?g ?i; (case i => first | exact .inl rfl | exact .inr rfl); (case hf => exact rfl); (case hk => exact rfl); (case B => k_asm); (case X => k_asm); (case T => k_asm); (case a => assumption); (case d => assumption); (case e => assumption); (case f => assumption); (case g => omega)))
local macro_rules | `(tactic| walk_at "getMethod ref") => `(tactic| (k_here; k_dflt (refine' method_inst ?k1 ?k2 ?k3 ?k4 ?k5 ?k6 ?k7 ?_; (case k1 => k_asm); (case k2 => k_asm); (case k3 => k_inst); (case k4 => k_is); (case k5 => k_is); (case k6 => k_is); (case k7 => assumption); k_whole)))
local macro_rules | `(tactic| walk_at "exec For") => `(tactic| (k_here; k_dflt (refine' Mine.For_walkF ?F ?_ ?hs; (case F => k_asm)); (case hs => (intro _; with_unfolding_all rfl))))
local macro_rules | `(tactic| walk_at "assign Tuple") => `(tactic| (k_here; (with_reducible show wpAny _ _ (assign (Expr.Tuple _ _ _) _ (Value.ref _)) _ _ _); k_dflt (refine' unpackN_ ?k1 ?k2 ?k3 ?k4 ?k5 ?k6 ?_; (case k1 => k_asm); (case k2 => k_asm); (case k3 => kun_tup); (case k4 => assumption); (case k5 => exact rfl); (case k6 => exact rfl); k_whole); intro h' F' N'; (try k_sweep)))
local macro_rules | `(tactic| walk_at "assign Tuple") => `(tactic| (k_here; (with_reducible show wpAny _ _ (assign (Expr.Tuple _ _ _) _ (Value.ref _)) _ _ _); k_dflt (refine' kun_list ?k1 ?k2 ?k3 ?k4 ?k5 ?k6 ?_; (case k1 => k_asm); (case k2 => k_asm); (case k3 => kun_lst); (case k4 => assumption); (case k5 => exact rfl); (case k6 => exact rfl); k_whole); intro h' F' N'; (try k_sweep)))
local macro_rules | `(tactic| walk_at "CompSrc") => `(tactic| (k_here; k_dflt (first
  | (refine LCg.CompSrc.ledger (by assumption) (by k_asm) (by k_asm) (by k_mem) (by first | size_fits | exact Nat.le_of_ble_eq_true rfl) ?_; intro g'; lcg_lit)
  | (refine LCg.CompSrc.range (by assumption) (by k_asm) (by k_asm) (by assumption) (by first | decide | rfl) (by first | rfl | decide) (by first | size_fits | exact Nat.le_of_ble_eq_true rfl) ?_; intro g'; lcg_lit))))
local macro_rules | `(tactic| walk_at "CompRest") => `(tactic| (with_unfolding_all first
  | (refine LCg.CompRest.succ ?_; intro v' I' oI' C' oC' D' m' h' tk' E' hv' hC' hx' F' N' off' ne'; (have off2' := off'); (try simp only [LCg.Off3, and_true] at off2'); (first | lcg_open hv' | (obtain ⟨t9', hv9'⟩ := hv'; subst hv9')))
  | refine LCg.CompRest.zero ?_))
local macro_rules | `(tactic| walk_at "CompEnd") => `(tactic| (refine LCg.CompEnd.intro (by k_asm) (by k_asm) _ (fun _ hp => hp) (by assumption) (by first | exact True.intro | assumption) ?_))
local macro_rules | `(tactic| k_all) => `(tactic| first | assumption | (refine Mine.ne_of_all (by assumption) (by omega)))
local macro_rules | `(tactic| walk_at "unpackItems ref") => `(tactic| (k_here; k_dflt (refine' kun_items ?k1 ?k2 ?k3 ?k4 ?k5 ?_; (case k1 => k_asm); (case k2 => k_asm); (case k3 => kun_lst); (case k4 => assumption); (case k5 => exact rfl); k_whole); intro h' F' N'; (try k_sweep)))
local macro_rules | `(tactic| walk_at "unpackItems ref") => `(tactic| (k_here; k_dflt (refine' unpackItemsN_ ?k1 ?k2 ?k3 ?k4 ?k5 ?_; (case k1 => k_asm); (case k2 => k_asm); (case k3 => kun_tup); (case k4 => assumption); (case k5 => exact rfl); k_whole); intro h' F' N'; (try k_sweep)))

theorem Mine.rs_tok : True ∧ True := by
  w_top off
  try (walk1; fail)
  exact ⟨True.intro, True.intro⟩

namespace Mine
section
variable {w : World} {A A₀ : Around} {s : Shared} {base h₀ : Heap} {env : Env} {outer : List Env} {L : Addr} {m mg mb : Str → Option Value} {news news' : List (Addr × Obj)} {loose : List Str} {mean : ExcName → Option Value} {R : Result → Shared → Prop}
theorem push_spec {line d l : Addr} {tok : Value} {es : List DictEntry} {n k : Nat} {its : Array Value}
    {kk : Nat} (hkk : 4 ≤ kk) (C : Cx kk w A A₀ base h₀ env outer L mg mb loose mean) (F : Fr h₀ L s.heap m) (N : News h₀ L s.heap news)
    (m1 : (line, instObj 90 d) ∈ news) (m2 : (d, dictOf es n) ∈ news) (hg : getL "pushback" es = some (some (.ref l)))
    (U : Upd l (listOf its k) (listOf (its.push tok) (k + 1)) news news') (hsz : its.size ≤ 1000)
    (h : ∀ h' tk, Fr h₀ L h' m → News h₀ L h' news' → R (.ok (.ret .none)) { s with heap := h', toks := tk }) :
    codeAny (model PR w) A (.call (.ref 87) ⟨[.ref line, tok], []⟩) R s := by
  obtain ⟨B, X, T, hA, hf, hke, hdep, hun, hh⟩ := C
  have m3 : (l, listOf its k) ∈ news := Upd.mem U
  refine' code_def (binds := [(Str.ofString "self", Value.ref line), (Str.ofString "token", tok)]) B F X N T hA hf hke ?k6 ?k7 ?k8 ?k9 ?kB ?_ ?c2 ?c3 ?c4 ?c5
  case k6 => k_is
  case k7 => k_is
  case k8 => (first | omega | (have := hdep; omega))
  case k9 => exact BindsTo.of_eq rfl
  case c5 => decide
  case kB => exact locs rfl
  case c2 => exact rfl
  case c3 => exact rfl
  case c4 => exact rfl
  intro g' L' h' FG' F' N' B' X' T'
  (try dsimp only)
  (try k_fold)
  k_steps
  refine h _ _ ?_ ?_ <;> assumption

theorem get_spec {line d l : Addr} {v : Value} {rest : List Value} {es : List DictEntry} {n k : Nat}
    {kk : Nat} (hkk : 4 ≤ kk) (C : Cx kk w A A₀ base h₀ env outer L mg mb loose mean) (F : Fr h₀ L s.heap m) (N : News h₀ L s.heap news)
    (m1 : (line, instObj 90 d) ∈ news) (m2 : (d, dictOf es n) ∈ news) (hg : getL "pushback" es = some (some (.ref l)))
    (U : Upd l (listOf (v :: rest).toArray k) (listOf rest.toArray (k + 1)) news news') (hsz : rest.length ≤ 1000)
    (h : ∀ h' tk, Fr h₀ L h' m → News h₀ L h' news' → R (.ok (.ret v)) { s with heap := h', toks := tk }) :
    codeAny (model PR w) A (.call (.ref 80) ⟨[.ref line], []⟩) R s := by
  obtain ⟨B, X, T, hA, hf, hke, hdep, hun, hh⟩ := C
  have m3 : (l, listOf (v :: rest).toArray k) ∈ news := Upd.mem U
  refine' code_def (binds := [(Str.ofString "self", Value.ref line)]) B F X N T hA hf hke ?k6 ?k7 ?k8 ?k9 ?kB ?_ ?c2 ?c3 ?c4 ?c5
  case k6 => k_is
  case k7 => k_is
  case k8 => (first | omega | (have := hdep; omega))
  case k9 => exact BindsTo.of_eq rfl
  case c5 => decide
  case kB => exact locs rfl
  case c2 => exact rfl
  case c3 => exact rfl
  case c4 => exact rfl
  intro g' L' h' FG' F' N' B' X' T'
  (try dsimp only)
  (try k_fold)
  k_steps
  refine h _ _ ?_ ?_ <;> assumption
end

end Mine

theorem Mine.rs_re : True ∧ True := by
  w_top off
  try (walk1; fail)
  exact ⟨True.intro, True.intro⟩

namespace Mine
-- needs: pre
section
open PySem.Sre PySem.Builtin.Re
theorem peek_bind {α β : Type} {K : Frag} {S : Setting} {f : α → Sem β} {a : α} : ∀ {t : Sem α}, peek K S t = some a → peek K S (t.bind f) = peek K S (f a) := by
  intro t
  induction t with
  | pure b => intro e; cases e; rfl
  | rule _ k ih => intro e; exact ih () e
  | point _ k ih => intro e; exact ih () e
  | ask k ih => intro e; exact ih _ e
  | load a _ k ih =>
    intro e
    simp only [peek, Sem.bind] at e ⊢
    split at e
    · rename_i o ho; first | exact ih o e | (rw [ho]; exact ih o e)
    · cases e
  | _ => intro e; cases e
noncomputable def okChar (c : Nat) : Bool := Nat.blt 31 c && !(Nat.beq c 127)
noncomputable def okText (x : Str) : Bool := x.cps.toList.all okChar
noncomputable def ncode : Array Nat := #[14, 10, 4, 1, 1, 22, 0, 31, 16, 127, 0, 13, 7, 22, 0, 31, 16, 127, 0, 1]
noncomputable def vcode : Array Nat := #[14, 14, 4, 1, 1, 9, 4294966783, 0, 0, 2147483648, 0, 0, 0, 0, 0, 13, 11, 9, 4294966783, 0, 0, 2147483648, 0, 0, 0, 0, 0, 1]
theorem blt_of {m n : Nat} (h : Nat.blt m n = true) : m < n := Nat.le_of_ble_eq_true h
theorem okChar_of {c : Nat} (h : okChar c = true) : 31 < c ∧ c ≠ 127 := by
  obtain ⟨a, b⟩ := Bool.and_eq_true_iff.mp h
  refine ⟨blt_of a, fun e => ?_⟩
  subst e
  cases b
theorem nset {c : Nat} (h : okChar c = true) (seen : Sre.Seen) : ∃ seen', inSet ncode c ncode.size 5 true seen = .ok (false, seen') := by
  obtain ⟨h1, h2⟩ := okChar_of h
  have e1 : (decide (0 ≤ c) && decide (c ≤ 31)) = false := by
    rw [Bool.and_eq_false_iff]; right; exact decide_eq_false (by omega)
  have e2 : (c == 127) = false := by simpa using h2
  show ∃ seen', (if (decide (0 ≤ c) && decide (c ≤ 31)) = true then _ else if (c == 127) = true then _ else Except.ok (!true, _)) = _
  rw [e1, e2]
  exact ⟨_, rfl⟩
theorem vbit {c : Nat} (h1 : 31 < c) (h2 : c ≠ 127) : (decide (c < 256) && (vcode.getD (5 + (1 + c / 32)) 0).testBit (c % 32)) = false := by
  by_cases h : c < 256
  · have key : ∀ c, c < 256 → (decide (31 < c) && !(Nat.beq c 127)) = true → (vcode.getD (5 + (1 + c / 32)) 0).testBit (c % 32) = false := by decide +kernel
    rw [key c h (by
      rw [decide_eq_true h1, Bool.true_and]
      cases q : Nat.beq c 127 with
      | false => rfl
      | true => exact absurd (Nat.eq_of_beq_eq_true q) h2), Bool.and_false]
  · rw [decide_eq_false h, Bool.false_and]
theorem vset {c : Nat} (h : okChar c = true) (seen : Sre.Seen) : ∃ seen', inSet vcode c vcode.size 5 true seen = .ok (false, seen') := by
  obtain ⟨h1, h2⟩ := okChar_of h
  have e := vbit h1 h2
  show ∃ seen', (if (decide (c < 256) && (vcode.getD (5 + (1 + c / 32)) 0).testBit (c % 32)) = true then _ else Except.ok (!true, _)) = _
  rw [e]
  exact ⟨_, rfl⟩
theorem admitted_none {m : M} (H : ∀ s, s < m.lim → ∀ seen, ∃ seen', inSet m.code (m.text.getD s 0) m.code.size 5 true seen = .ok (false, seen')) : ∀ (fuel s : Nat) (seen : Sre.Seen), ∃ seen', M.admitted m fuel s seen = .ok (none, seen')
  | 0, _, seen => ⟨seen, rfl⟩
  | fuel + 1, s, seen => by
    unfold M.admitted
    by_cases h : s ≥ m.lim
    · rw [if_pos h]; exact ⟨_, rfl⟩
    · rw [if_neg h]
      obtain ⟨q, e⟩ := H s (by omega) seen
      rw [e]
      exact admitted_none H fuel (s + 1) q
theorem search_failed (code : Array Nat) (text : Array Nat) {hb : Nat} (hc : header code = (1, hb)) (h4 : code.getD 2 0 = 4) (h0 : ops[code.getD 0 0]? = some .INFO)
    (H : ∀ c, okChar c = true → ∀ seen, ∃ seen', inSet code c code.size 5 true seen = .ok (false, seen')) (ht : text.toList.all okChar = true) :
    ∃ m : M, (forSearch code text 0 0 text.size false).runFor reTurnSteps = m ∧ m.outcome = some .failed := by
  refine ⟨_, rfl, ?_⟩
  have say_run : ∀ m : M, m.outcome = none → m.frames = [] → ((m.say false).runFor reTurnSteps).outcome = some .failed := by
    intro m h1 h2
    have e1 : (m.say false).step = { m.say false with outcome := some .failed } := by
      unfold M.step
      simp only [M.say, h1, h2, Option.isSome_none, Bool.false_eq_true, if_false]
    have e2 : ∀ n (m : M), m.outcome = some .failed → (m.runFor n).outcome = some .failed := by
      intro n
      induction n with
      | zero => intro m h; exact h
      | succ n ih => intro m h; unfold M.runFor; rw [h]; exact h
    show ((if (m.say false).outcome.isSome = true then m.say false else M.runFor 3 (m.say false).step)).outcome = _
    rw [show (m.say false).outcome.isSome = false from by show m.outcome.isSome = false; rw [h1]; rfl]
    simp only [Bool.false_eq_true, if_false]
    rw [e1]
    exact e2 3 _ rfl
  have key : ∀ m : M, m.code = code → m.text = text → m.lim = text.size → m.outcome = none → m.frames = [] → ((m.attemptFrom 0 true).runFor reTurnSteps).outcome = some .failed := by
    intro m e1 e2 e3 e4 e5
    have hs : m.hasFirstSet = true := by
      unfold M.hasFirstSet
      rw [e1, h0, h4]; rfl
    unfold M.attemptFrom
    rw [hs]
    simp only [Bool.not_true, Bool.false_eq_true, if_false]
    obtain ⟨q, e⟩ := admitted_none (m := m) (fun s hl seen => by
      rw [e1, e2]
      rw [e3] at hl
      refine H _ ?_ seen
      have hl' : s < text.toList.length := by simpa using hl
      have q := List.all_eq_true.mp ht (text.toList[s]) (List.getElem_mem ..)
      have z : text.getD s 0 = text.toList[s] := by
        rw [Array.getD_eq_getD_getElem?]; simp [hl]
      rw [z]; exact q) (m.lim + 1 - 0) 0 m.seen
    rw [e]
    exact say_run _ e4 e5
  unfold forSearch
  simp only [hc]
  by_cases hz : text.size = 0
  · rw [if_pos (by rw [hz]; rfl)]
    exact say_run _ rfl rfl
  · rw [if_neg (by rw [Bool.or_eq_true, decide_eq_true_eq, decide_eq_true_eq]; omega)]
    exact key _ rfl rfl rfl rfl rfl

theorem plainAttrs_pat : PlainAttrs "re.Pattern" :=
  ⟨⟨"object.__getattribute__", by rw [typeLookup_type, builtinLookup_eq_fast]; kernel_rfl, by decide +kernel⟩, by rw [typeLookup_type, builtinLookup_eq_fast]; kernel_rfl⟩
theorem slot_search : Slot "re.Pattern" "search" "re.Pattern.search" :=
  .of (owner := "re.Pattern") (n := "search") (by rw [typeLookup_type, builtinLookup_eq_fast]; kernel_rfl) (by decide +kernel) (by decide +kernel) (by decide +kernel)
    (by first | exact .inl (by decide +kernel) | exact .inr (by decide +kernel)) (by rw [isSubtype_type]; kernel_rfl)
theorem type_search : typeOf (.builtin "re.Pattern.search") = pure (.type "method_descriptor") := by show builtinType _ = _; rw [builtinType_eq_fast]; kernel_rfl
theorem entry_search : entryFor table "re.Pattern.search" = some Builtin.«re.Pattern.search» := entryFor_of_tree (by kernel_rfl)
theorem owner_pat : Manifest.owners.lookup (String.ofList ['n', 'r', 'e', 't', 't', 'a', 'P', '.', 'e', 'r'].reverse) = some Manifest.sig_re_Pattern := by kernel_rfl
theorem args_search (a b : Value) : argsOk "re.Pattern.search" ⟨[a, b], []⟩ := by
  unfold argsOk; rw [signature?_of (id := "re.Pattern.search") (n := ['h', 'c', 'r', 'a', 'e', 's']) (o := ['n', 'r', 'e', 't', 't', 'a', 'P', '.', 'e', 'r']) (by kernel_rfl) owner_pat]; kernel_rfl
theorem wpAny_rules {M : Model} {A : Around} {E : Value → Shared → Prop} {s : Shared} (p : Nat → Bool) (tag : Nat → String) {Q : PUnit → Shared → Prop} (h : Q PUnit.unit s) : ∀ l : List Nat,
    wpAny M A (forIn l PUnit.unit fun i (_ : PUnit) => if p i = true then (rule (tag i) >>= fun _ => pure (ForInStep.yield PUnit.unit)) else pure (ForInStep.yield PUnit.unit)) Q E s
  | [] => wpAny_pure h
  | i :: l => by
    rw [List.forIn_cons]
    refine wpAny_bind ?_
    split
    · exact wpAny_bind (wpAny_rule (wpAny_pure (wpAny_rules p tag h l)))
    · exact wpAny_pure (wpAny_rules p tag h l)
theorem answer_none {M' : Model} {A : Around} {E : Value → Shared → Prop} {s : Shared} {t : ReTarget} {m : M} {Q : Fin → Shared → Prop} (hm : (m.runFor reTurnSteps).outcome = some .failed) (h : Q (.done (.ret .none)) s) :
    wpAny M' A (reAnswer t m) Q E s := by
  unfold reAnswer reRunToEnd
  refine wpAny_bind (wpAny_bind ?_)
  show wpAny _ _ (if (m.runFor reTurnSteps).outcome.isSome = true then pure (m.runFor reTurnSteps) else _) _ _ _
  rw [hm]
  refine wpAny_pure ?_
  refine wpAny_bind (wpAny_rules (fun i => M.seen (m.runFor reTurnSteps) |>.has i) (fun i => Sre.names.getD i "") ?_ _)
  rw [hm]
  exact wpAny_pure (wpAny_pure h)

theorem peek_search (P : Params) (S : Setting) (x : Str) (t : Tok) : peek (hd.heap_1 P) S (reTarget "re.Pattern.search" "search" ⟨[.ref 99, .str x t], []⟩) =
    some ⟨.ref 99, .str x t, ncode, x.cps, 0, 0, min (0 : Int).toNat x.cps.size, min (2 ^ 63 - 1 : Int).toNat x.cps.size⟩ := by kernel_rfl
theorem peek_searchV (P : Params) (S : Setting) (x : Str) (t : Tok) : peek (hd.heap_1 P) S (reTarget "re.Pattern.search" "search" ⟨[.ref 104, .str x t], []⟩) =
    some ⟨.ref 104, .str x t, vcode, x.cps, 0, 0, min (0 : Int).toNat x.cps.size, min (2 ^ 63 - 1 : Int).toNat x.cps.size⟩ := by kernel_rfl
theorem call_search {w : World} {A : Around} {E : Value → Shared → Prop} {s : Shared} {pa : Addr} {x : Str} {t : Tok} {Q : Value → Shared → Prop} (hp : pa = 99 ∨ pa = 104)
    (X : (hd.heap_1 w.params).In s.heap) (hx : okText x = true) (hz : x.length ≤ 16777216) (h : Q .none s) :
    wpAny (model PR w) A (call (.builtin "re.Pattern.search") [.ref pa, .str x t]) Q E s := by
  have hT : s.TypeIs (.ref pa) "re.Pattern" := by
    rcases hp with rfl | rfl
    · exact ⟨_, X 99 _ (by rfl), rfl⟩
    · exact ⟨_, X 104 _ (by rfl), rfl⟩
  refine wpAny_call (codeAny_call_builtin slot_search.plain entry_search (slot_search.check _ _ _ _ _ _ _ _ hT (args_search _ _) ?_))
  have hl : min (2 ^ 63 - 1 : Int).toNat x.cps.size = x.cps.size := by
    have : x.cps.size ≤ 16777216 := hz
    omega
  have hl0 : min (0 : Int).toNat x.cps.size = 0 := by simp
  unfold Builtin.«re.Pattern.search»
  refine wpAny_bind ?_
  rcases hp with rfl | rfl
  · refine (Looks.of_peek (M := model PR w) X (peek_search _ _ x t)).here ?_
    rw [hl, hl0]
    obtain ⟨m, rfl, hm⟩ := search_failed ncode x.cps (hb := 11) (by rfl) (by rfl) (by rfl) (fun c hc seen => nset hc seen) hx
    exact answer_none hm h
  · refine (Looks.of_peek (M := model PR w) X (peek_searchV _ _ x t)).here ?_
    rw [hl, hl0]
    obtain ⟨m, rfl, hm⟩ := search_failed vcode x.cps (hb := 15) (by rfl) (by rfl) (by rfl) (fun c hc seen => vset hc seen) hx
    exact answer_none hm h

theorem get_search {w : World} {A : Around} {E : Value → Shared → Prop} {s : Shared} {h₀ : Heap} {L : Addr} {m : Str → Option Value} {pa : Addr} {pl : Sem Bool} {Q : Value × List Value → Shared → Prop} (hp : pa = 99 ∨ pa = 104)
    (F : Fr h₀ L s.heap m) (X : (hd.heap_1 w.params).In h₀) (h : Q (.builtin "re.Pattern.search", [.ref pa]) s) : wpAny (model PR w) A (getMethod (.ref pa) "search" pl) Q E s := by
  have X := X.keeps F.keep
  have hT : s.TypeIs (.ref pa) "re.Pattern" := by
    rcases hp with rfl | rfl
    · exact ⟨_, X 99 _ (by rfl), rfl⟩
    · exact ⟨_, X 104 _ (by rfl), rfl⟩
  refine getMethod_builtin hT plainAttrs_pat slot_search type_search (fun a e => ?_) h
  cases e
  rcases hp with rfl | rfl
  · exact ⟨_, X 99 _ (by rfl), rfl⟩
  · exact ⟨_, X 104 _ (by rfl), rfl⟩
theorem call_searchF {w : World} {A : Around} {E : Value → Shared → Prop} {s : Shared} {h₀ : Heap} {L : Addr} {m : Str → Option Value} {pa : Addr} {x : Str} {t : Tok} {Q : Value → Shared → Prop} (hp : pa = 99 ∨ pa = 104)
    (F : Fr h₀ L s.heap m) (X : (hd.heap_1 w.params).In h₀) (hx : okText x = true) (hz : x.length ≤ 16777216) (h : Q .none s) :
    wpAny (model PR w) A (call (.builtin "re.Pattern.search") [.ref pa, .str x t]) Q E s := call_search hp (X.keeps F.keep) hx hz h
end

end Mine

theorem Mine.rs_hdr : True ∧ True := by
  w_top off
  try (walk1; fail)
  exact ⟨True.intro, True.intro⟩

namespace Mine
-- needs: pre re loop
local macro_rules | `(tactic| walk_at "getMethod ref") => `(tactic| (k_here; (with_reducible show wpAny _ _ (getMethod (Value.ref _) (PySem.Str.ofString "search") _) _ _ _); k_dflt (refine' get_search ?p ?F ?X ?_; (case p => first | exact .inl rfl | exact .inr rfl); (case F => k_asm); (case X => k_asm); k_whole)))
local macro_rules | `(tactic| walk_at "call builtin:re.Pattern.search") => `(tactic| (k_here; k_dflt (refine' call_searchF ?p ?F ?X ?x ?z ?_; (case p => first | exact .inl rfl | exact .inr rfl); (case F => k_asm); (case X => k_asm); (case x => assumption); (case z => assumption); k_whole)))
section
variable {w : World} {A A₀ : Around} {s : Shared} {base h₀ : Heap} {env : Env} {outer : List Env} {L : Addr} {m mg mb : Str → Option Value} {news news' : List (Addr × Obj)} {loose : List Str} {mean : ExcName → Option Value} {R : Result → Shared → Prop}
theorem conv_spec {self : Value} {x : Str} {t : Tok} {b : Bool} (hx : okText x = true) (hz : x.length ≤ 16777216)
    {kk : Nat} (hkk : 4 ≤ kk) (C : Cx kk w A A₀ base h₀ env outer L mg mb loose mean) (F : Fr h₀ L s.heap m) (N : News h₀ L s.heap news)
    (h : ∀ h' tk, Fr h₀ L h' m → News h₀ L h' news → R (.ok (.ret (.str x t))) { s with heap := h', toks := tk }) :
    codeAny (model PR w) A (.call (.ref 126) ⟨[self, .str x t], [("name", .bool b)]⟩) R s := by
  obtain ⟨B, X, T, hA, hf, hke, hdep, hun, hh⟩ := C
  refine' code_def (binds := [(Str.ofString "self", self), (Str.ofString "value", .str x t), (Str.ofString "name", .bool b)]) B F X N T hA hf hke ?k6 ?k7 ?k8 ?k9 ?kB ?_ ?c2 ?c3 ?c4 ?c5
  case k6 => k_is
  case k7 => k_is
  case k8 => (first | omega | (have := hdep; omega))
  case k9 => exact BindsTo.of_eq rfl
  case c5 => decide
  case kB => exact locs rfl
  case c2 => exact rfl
  case c3 => exact rfl
  case c4 => exact rfl
  intro g' L' h' FG' F' N' B' X' T'
  (try dsimp only)
  (try k_fold)
  k_steps
  all_goals (refine h _ _ ?_ ?_ <;> assumption)

structure HP where
  a : Addr
  k : Str
  kt : Tok
  v : Str
  vt : Tok
noncomputable abbrev tupO (vs : List Value) : Obj := { cls := .type "tuple", data := .seq vs.toArray }
structure HdrAt (news : List (Addr × Obj)) (hd d hl : Addr) (ps : List HP) (n : Nat) (es : List DictEntry) (ne : Nat) : Prop where
  m1 : (hd, instObj 227 d) ∈ news
  m2 : (d, dictOf es ne) ∈ news
  g1 : getL "_headers" es = some (some (.ref hl))
  m3 : (hl, listOf (ps.map fun p => Value.ref p.a).toArray n) ∈ news
  m4 : ∀ p ∈ ps, (p.a, tupO [.str p.k p.kt, .str p.v p.vt]) ∈ news
  g2 : getL "_convert_string_type" es = some none
  g3 : getL "get" es = some none
  g4 : getL "setdefault" es = some none
  g5 : getL "keys" es = some none
local macro_rules | `(tactic| walk_at "call ref") => `(tactic| (k_here; (with_reducible show wpAny _ _ (call (Value.ref 126) _ _) _ _ _); k_dflt (refine wpAny_call ?_; refine' conv_spec ?x ?z ?k ?C ?F ?N ?_; (case x => assumption); (case z => first | assumption | omega); (case C => walk_at "m_cx"); (case k => omega); (case F => k_asm); (case N => k_asm)); intro h' tk F' N'; (try dsimp only)))
theorem find_at {α : Type} {f : α → Bool} : ∀ {ps : List α} {i : Nat} {p : α}, ps[i]? = some p → f p = true → (∀ p ∈ ps.take i, f p = false) → ps.find? f = some p
  | [], _, _, h, _, _ => by cases h
  | x :: ps, 0, p, h, hp, _ => by cases h; rw [List.find?_cons, hp]
  | x :: ps, i + 1, p, h, hp, hno => by
    rw [List.find?_cons, hno x (by rw [List.take_succ_cons]; exact .head _)]
    exact find_at (by simpa using h) hp fun q hq => hno q (by rw [List.take_succ_cons]; exact .tail _ hq)
theorem take_next {α : Type} {f : α → Bool} {ps : List α} {i : Nat} {p : α} (h : ps[i]? = some p) (hp : f p = false) (hno : ∀ p ∈ ps.take i, f p = false) : ∀ p ∈ ps.take (i + 1), f p = false := by
  intro q hq
  rw [List.take_add_one, h] at hq
  rcases List.mem_append.mp hq with hq | hq
  · exact hno q hq
  · rw [List.mem_singleton.mp hq]; exact hp
theorem hget_spec {hd d hl : Addr} {ps : List HP} {n ne : Nat} {es : List DictEntry} {x : Str} {t : Tok} (hx : okText (Txt.lower x) = true) (hz : x.length ≤ 100000) (hps : ∀ p ∈ ps, p.k.length ≤ 100000) (hpl : ps.length ≤ 1000)
    {kk : Nat} (hkk : 8 ≤ kk) (C : Cx kk w A A₀ base h₀ env outer L mg mb loose mean) (F : Fr h₀ L s.heap m) (N : News h₀ L s.heap news) (H : HdrAt news hd d hl ps n es ne)
    (h : ∀ h' tk, Fr h₀ L h' m → News h₀ L h' news → R (.ok (.ret (match ps.find? (fun p => Txt.lower p.k == Txt.lower x) with | some p => .str p.v p.vt | none => .none))) { s with heap := h', toks := tk }) :
    codeAny (model PR w) A (.call (.ref 174) ⟨[.ref hd, .str x t], []⟩) R s := by
  obtain ⟨B, X, T, hA, hf, hke, hdep, hun, hh⟩ := C
  obtain ⟨m1, m2, g1, m3, m4, g2, g3, g4, g5⟩ := H
  refine' code_def (binds := [(Str.ofString "self", .ref hd), (Str.ofString "name", .str x t), (Str.ofString "default", .none)]) B F X N T hA hf hke ?k6 ?k7 ?k8 ?k9 ?kB ?_ ?c2 ?c3 ?c4 ?c5
  case k6 => k_is
  case k7 => k_is
  case k8 => (first | omega | (have := hdep; omega))
  case k9 => exact binds_K (by k_in) rfl (by k_is) rfl rfl rfl
  case c5 => decide
  case kB => exact locs rfl
  case c2 => exact rfl
  case c3 => exact rfl
  case c4 => exact rfl
  intro g' L' h' FG' F' N' B' X' T'
  (try dsimp only)
  (try k_fold)
  k_steps
  (with_reducible rename Fr _ _ _ _ => F1); (with_reducible rename News _ _ _ _ => N1)
  refine loop_list (fun m0 news0 i m₁ news₁ => news₁ = news0 ∧ (∃ ku vu, m₁ = fun z => if z = Str.ofString "v" then vu else if z = Str.ofString "k" then ku else m0 z) ∧ ∀ p ∈ ps.take i, (Txt.lower p.k == Txt.lower x) = false) hh F1 N1 m3 (.inr ⟨_, _, _, rfl, ?_⟩) ⟨rfl, ⟨_, _, two_back _⟩, by simp⟩ ?_ ?_
  · intro i v hv
    simp only [List.getElem?_toArray, List.getElem?_map] at hv
    cases q : ps[i]? with
    | none => rw [q] at hv; cases hv
    | some p => rw [q] at hv; cases hv; exact ⟨_, rfl⟩
  · rintro i v m₁ news₁ h₁ tk₁ own I hv ⟨rfl, ⟨ku, vu, rfl⟩, hno⟩ hI hown F₁ N₁ _
    simp only [List.getElem?_toArray, List.getElem?_map] at hv
    cases q : ps[i]? with
    | none => rw [q] at hv; cases hv
    | some p =>
    rw [q] at hv; cases hv
    have mp := List.mem_append_right own (m4 p (List.mem_of_getElem? q))
    have hpk := hps p (List.mem_of_getElem? q)
    clear F1 N1
    change Fr g' L' h₁ _ at F₁
    change News g' L' h₁ _ at N₁
    dsimp only
    k_steps
    · dsimp only [Turn]
      have e := find_at (f := fun p => Txt.lower p.k == Txt.lower x) q (by assumption) hno
      rw [e] at h
      k_steps
      refine h _ _ ?_ (News.right (a := own) ?_) <;> assumption
    · (with_reducible rename Fr _ _ _ _ => F9); (with_reducible rename News _ _ _ _ => N9)
      refine Turn.next F9 N9 ?_ ⟨rfl, ⟨_, _, two_put _ _ _ _ _⟩, take_next q (by assumption) hno⟩
      intro p hp; rw [List.mem_singleton]; exact hI p hp
  · rintro h₁ tk₁ m₁ news₁ _ F₁ N₁ ⟨rfl, ⟨ku, vu, rfl⟩, hno⟩
    have e : ps.find? (fun p => Txt.lower p.k == Txt.lower x) = none := by
      rw [List.find?_eq_none]
      intro p hp
      have := hno p (by simpa using hp)
      simpa using this
    rw [e] at h
    clear F1 N1
    change Fr g' L' h₁ _ at F₁
    change News g' L' h₁ _ at N₁
    dsimp only
    k_steps
    refine h _ _ ?_ ?_ <;> assumption

theorem hget_none {hd d hl : Addr} {ps : List HP} {n ne : Nat} {es : List DictEntry} {x : Str} {t : Tok} (hx : okText (Txt.lower x) = true) (hz : x.length ≤ 100000) (hps : ∀ p ∈ ps, p.k.length ≤ 100000) (hpl : ps.length ≤ 1000)
    {kk : Nat} (hkk : 8 ≤ kk) (C : Cx kk w A A₀ base h₀ env outer L mg mb loose mean) (F : Fr h₀ L s.heap m) (N : News h₀ L s.heap news) (H : HdrAt news hd d hl ps n es ne) (hf : ps.find? (fun p => Txt.lower p.k == Txt.lower x) = none)
    (h : ∀ h' tk, Fr h₀ L h' m → News h₀ L h' news → R (.ok (.ret .none)) { s with heap := h', toks := tk }) :
    codeAny (model PR w) A (.call (.ref 174) ⟨[.ref hd, .str x t], []⟩) R s :=
  hget_spec hx hz hps hpl hkk C F N H (by rw [hf]; exact h)
theorem hget_some {hd d hl : Addr} {ps : List HP} {n ne : Nat} {es : List DictEntry} {x : Str} {t : Tok} {p : HP} (hx : okText (Txt.lower x) = true) (hz : x.length ≤ 100000) (hps : ∀ p ∈ ps, p.k.length ≤ 100000) (hpl : ps.length ≤ 1000)
    {kk : Nat} (hkk : 8 ≤ kk) (C : Cx kk w A A₀ base h₀ env outer L mg mb loose mean) (F : Fr h₀ L s.heap m) (N : News h₀ L s.heap news) (H : HdrAt news hd d hl ps n es ne) (hf : ps.find? (fun p => Txt.lower p.k == Txt.lower x) = some p)
    (h : ∀ h' tk, Fr h₀ L h' m → News h₀ L h' news → R (.ok (.ret (.str p.v p.vt))) { s with heap := h', toks := tk }) :
    codeAny (model PR w) A (.call (.ref 174) ⟨[.ref hd, .str x t], []⟩) R s :=
  hget_spec hx hz hps hpl hkk C F N H (by rw [hf]; exact h)
local macro_rules | `(tactic| walk_at "call ref") => `(tactic| (k_here; (with_reducible show wpAny _ _ (call (Value.ref 174) _ _) _ _ _); k_dflt (refine wpAny_call ?_; refine' hget_some ?x ?z ?z1 ?z2 ?k ?C ?F ?N ?H ?f ?_; (case x => assumption); (case z => assumption); (case z1 => assumption); (case z2 => assumption); (case f => assumption); (case C => walk_at "m_cx"); (case k => omega); (case F => k_asm); (case N => k_asm); (case H => assumption)); intro h' tk F' N'; (try dsimp only)))
local macro_rules | `(tactic| walk_at "call ref") => `(tactic| (k_here; (with_reducible show wpAny _ _ (call (Value.ref 174) _ _) _ _ _); k_dflt (refine wpAny_call ?_; refine' hget_none ?x ?z ?z1 ?z2 ?k ?C ?F ?N ?H ?f ?_; (case x => assumption); (case z => assumption); (case z1 => assumption); (case z2 => assumption); (case f => assumption); (case C => walk_at "m_cx"); (case k => omega); (case F => k_asm); (case N => k_asm); (case H => assumption)); intro h' tk F' N'; (try dsimp only)))
theorem hdef_some {hd d hl : Addr} {ps : List HP} {n ne : Nat} {es : List DictEntry} {x v : Str} {t vt : Tok} {p : HP} (hx : okText (Txt.lower x) = true) (hz : x.length ≤ 100000) (hps : ∀ p ∈ ps, p.k.length ≤ 100000) (hpl : ps.length ≤ 1000)
    {kk : Nat} (hkk : 12 ≤ kk) (C : Cx kk w A A₀ base h₀ env outer L mg mb loose mean) (F : Fr h₀ L s.heap m) (N : News h₀ L s.heap news) (H : HdrAt news hd d hl ps n es ne) (hfn : ps.find? (fun p => Txt.lower p.k == Txt.lower x) = some p)
    (h : ∀ h' tk, Fr h₀ L h' m → News h₀ L h' news → R (.ok (.ret (.str p.v p.vt))) { s with heap := h', toks := tk }) :
    codeAny (model PR w) A (.call (.ref 217) ⟨[.ref hd, .str x t, .str v vt], []⟩) R s := by
  obtain ⟨B, X, T, hA, hf, hke, hdep, hun, hh⟩ := C
  obtain ⟨m1, m2, g1, m3, m4, g2, g3, g4, g5⟩ := id H
  refine' code_def (binds := [(Str.ofString "self", .ref hd), (Str.ofString "name", .str x t), (Str.ofString "value", .str v vt)]) B F X N T hA hf hke ?k6 ?k7 ?k8 ?k9 ?kB ?_ ?c2 ?c3 ?c4 ?c5
  case k6 => k_is
  case k7 => k_is
  case k8 => (first | omega | (have := hdep; omega))
  case k9 => exact BindsTo.of_eq rfl
  case c5 => decide
  case kB => exact locs rfl
  case c2 => exact rfl
  case c3 => exact rfl
  case c4 => exact rfl
  intro g' L' h' FG' F' N' B' X' T'
  (try dsimp only)
  (try k_fold)
  k_steps
  refine h _ _ ?_ ?_ <;> assumption
theorem hdef_none {hd d hl : Addr} {ps : List HP} {n ne : Nat} {es : List DictEntry} {x v : Str} {t vt : Tok} {Un : Addr → List (Addr × Obj)} (hx : okText (Txt.lower x) = true) (hx2 : okText x = true) (hv : okText v = true) (hz : x.length ≤ 100000) (hzv : v.length ≤ 100000) (hps : ∀ p ∈ ps, p.k.length ≤ 100000) (hpl : ps.length ≤ 1000)
    {kk : Nat} (hkk : 12 ≤ kk) (C : Cx kk w A A₀ base h₀ env outer L mg mb loose mean) (F : Fr h₀ L s.heap m) (N : News h₀ L s.heap news) (H : HdrAt news hd d hl ps n es ne) (hfn : ps.find? (fun p => Txt.lower p.k == Txt.lower x) = none)
    (U : ∀ a, Upd hl (listOf (ps.map fun p => Value.ref p.a).toArray n) (listOf ((ps.map fun p => Value.ref p.a).toArray.push (.ref a)) (n + 1)) news (Un a))
    (h : ∀ h' tk a, (∀ p ∈ news, p.1 < a) → Fr h₀ L h' m → News h₀ L h' ((a, tupO [.str x t, .str v vt]) :: Un a) → R (.ok (.ret (.str v vt))) { s with heap := h', toks := tk }) :
    codeAny (model PR w) A (.call (.ref 217) ⟨[.ref hd, .str x t, .str v vt], []⟩) R s := by
  obtain ⟨B, X, T, hA, hf, hke, hdep, hun, hh⟩ := C
  obtain ⟨m1, m2, g1, m3, m4, g2, g3, g4, g5⟩ := id H
  refine' code_def (binds := [(Str.ofString "self", .ref hd), (Str.ofString "name", .str x t), (Str.ofString "value", .str v vt)]) B F X N T hA hf hke ?k6 ?k7 ?k8 ?k9 ?kB ?_ ?c2 ?c3 ?c4 ?c5
  case k6 => k_is
  case k7 => k_is
  case k8 => (first | omega | (have := hdep; omega))
  case k9 => exact BindsTo.of_eq rfl
  case c5 => decide
  case kB => exact locs rfl
  case c2 => exact rfl
  case c3 => exact rfl
  case c4 => exact rfl
  intro g' L' h' FG' F' N' B' X' T'
  (try dsimp only)
  (try k_fold)
  k_steps
  (with_reducible rename Fr _ _ _ _ => F9); (with_reducible rename News _ _ _ _ => N9); (with_reducible rename ∀ p ∈ news, p.1 < _ => l9)
  have hne : ∀ {p : Addr × Obj}, (∀ q ∈ news, q.1 < p.1) → p.1 ≠ hl := fun {p} q => (Nat.ne_of_lt (q _ m3)).symm
  k_dflt (refine append_K F9 N9 (Upd.tail (hne l9) (U _)) ?_ ?_)
  · intro h' F' N'
    k_steps
    refine h _ _ _ l9 ?_ ?_ <;> assumption
  · rw [sizeLine_eq, List.size_toArray, List.length_map]; omega
end

end Mine

theorem Mine.rs_esc : True ∧ True := by
  w_top off
  try (walk1; fail)
  exact ⟨True.intro, True.intro⟩

namespace Mine
-- needs: pre
section
theorem iteT {b : Bool} {P Q : Prop} (hb : b = true) (h : P) : if b = true then P else Q := by rw [if_pos hb]; exact h
theorem iteF {b : Bool} {P Q : Prop} (hb : b = false) (h : Q) : if b = true then P else Q := by rw [if_neg (by rw [hb]; decide)]; exact h
theorem replC {prog : Program} {w : World} {A : Around} {E : Value → Shared → Prop} {s : Shared} {x y z : Str} {t : Tok} {u v : Nat} {Q : Value → Shared → Prop} (hu : 1 ≤ u) (huv : v = u + 1) (hyz : (y == z) = false) (hx : x.length ≤ 10000) (hz : z.length ≤ 14) (h1 : 1 ≤ s.toks)
    (hq : ∀ t' k, 1 ≤ k → Q (.str (Txt.replace x y z) t') { s with toks := k }) : wpAny (model prog w) A (call (.builtin "str.replace") [.str x t, .str y u, .str z v]) Q E s :=
  wpAny_with_toks h1 (SC.replaceW (fun e => by rw [e] at hu; exact absurd hu (by decide)) (fun e => Nat.succ_ne_zero u (huv.symm.trans e)) (fun e => Nat.ne_of_lt (Nat.lt_succ_self u) (e.trans huv)) hyz (by omega) hz fun t' k hk => hq t' k hk)
/-- Whether the text y stands in the text x, as the model reckons it. -/
noncomputable abbrev has (x y : Str) : Bool := !(Builtin.Str.occurrences x y 0 x.length 1).isEmpty
noncomputable def amp (x : Str) : Str := if has x "&" then Txt.replace x "&" "&amp;" else x
end
local macro_rules | `(tactic| walk_at "execs cons") => `(tactic| ((with_reducible refine wpAny_execs_cons ?_); try dsimp only))
local macro_rules | `(tactic| walk_at "execs nil") => `(tactic| ((with_reducible refine wpAny_execs_nil ?_); try dsimp only))
theorem tk1 {a b : Nat} (h : 1 ≤ a) : 1 ≤ a + b := Nat.le_trans h (Nat.le_add_right _ _)
local macro_rules | `(tactic| walk_at "m_tok") => `(tactic| first | assumption | omega | (exact tk1 (by assumption)) | (exact tk1 (tk1 (by assumption))) | (exact tk1 (tk1 (tk1 (by assumption)))) | (exact tk1 (tk1 (tk1 (tk1 (by assumption))))))
local macro_rules | `(tactic| walk_at "ite") => `(tactic| first | refine iteT (by assumption) ?_ | refine iteF (by assumption) ?_)
local macro_rules | `(tactic| walk_at "call builtin:str.replace") => `(tactic| (k_here; k_dflt (refine' replC ?u ?v ?e ?x ?z ?t ?_; (case u => walk_at "m_tok"); (case v => first | rfl | omega); (case e => decide); (case x => assumption); (case z => decide); (case t => walk_at "m_tok")); intro t' k hk))
section
variable {w : World} {A A₀ : Around} {s : Shared} {base h₀ : Heap} {env : Env} {outer : List Env} {L : Addr} {m mg mb : Str → Option Value} {news news' : List (Addr × Obj)} {loose : List Str} {mean : ExcName → Option Value} {R : Result → Shared → Prop}
theorem exch_spec {x : Str} {t : Tok} (ht : 1 ≤ s.toks) (hz : x.length ≤ 10000) (hz1 : (Txt.replace x "amp;" "~").length ≤ 10000) (hz2 : (Txt.replace (Txt.replace x "amp;" "~") "&" "amp;").length ≤ 10000)
    {kk : Nat} (hkk : 4 ≤ kk) (C : Cx kk w A A₀ base h₀ env outer L mg mb loose mean) (F : Fr h₀ L s.heap m) (N : News h₀ L s.heap news)
    (h : ∀ h' tk t', 1 ≤ tk → Fr h₀ L h' m → News h₀ L h' news → R (.ok (.ret (.str (Txt.replace (Txt.replace (Txt.replace x "amp;" "~") "&" "amp;") "~" "&") t'))) { s with heap := h', toks := tk }) :
    codeAny (model PR w) A (.call (.ref 290) ⟨[.str x t], []⟩) R s := by
  obtain ⟨B, X, T, hA, hf, hke, hdep, hun, hh⟩ := C
  refine' code_def (binds := [(Str.ofString "text", .str x t)]) B F X N T hA hf hke ?k6 ?k7 ?k8 ?k9 ?kB ?_ ?c2 ?c3 ?c4 ?c5
  case k6 => k_is
  case k7 => k_is
  case k8 => (first | omega | (have := hdep; omega))
  case k9 => exact BindsTo.of_eq rfl
  case c5 => decide
  case kB => exact locs rfl
  case c2 => exact rfl
  case c3 => exact rfl
  case c4 => exact rfl
  intro g' L' h' FG' F' N' B' X' T'
  (try dsimp only)
  (try k_fold)
  k_steps
  refine h _ _ _ ?_ ?_ ?_ <;> first | assumption | omega
theorem cdata1_spec {x : Str} {t : Tok} (ht : 1 ≤ s.toks) (hz : x.length ≤ 10000) (ha : has x "&" = true) (h0 : has (Txt.replace x "&" "&amp;") "<" = false) (h1 : has (Txt.replace x "&" "&amp;") ">" = false)
    {kk : Nat} (hkk : 4 ≤ kk) (C : Cx kk w A A₀ base h₀ env outer L mg mb loose mean) (F : Fr h₀ L s.heap m) (N : News h₀ L s.heap news)
    (h : ∀ h' tk t', 1 ≤ tk → Fr h₀ L h' m → News h₀ L h' news → R (.ok (.ret (.str (Txt.replace x "&" "&amp;") t'))) { s with heap := h', toks := tk }) :
    codeAny (model PR w) A (.call (.ref 245) ⟨[.str x t], []⟩) R s := by
  obtain ⟨B, X, T, hA, hf, hke, hdep, hun, hh⟩ := C
  refine' code_def (binds := [(Str.ofString "text", .str x t)]) B F X N T hA hf hke ?k6 ?k7 ?k8 ?k9 ?kB ?_ ?c2 ?c3 ?c4 ?c5
  case k6 => k_is
  case k7 => k_is
  case k8 => (first | omega | (have := hdep; omega))
  case k9 => exact BindsTo.of_eq rfl
  case c5 => decide
  case kB => exact locs rfl
  case c2 => exact rfl
  case c3 => exact rfl
  case c4 => exact rfl
  intro g' L' h' FG' F' N' B' X' T'
  (try dsimp only)
  (try k_fold)
  k_steps
  refine h _ _ _ ?_ ?_ ?_ <;> first | assumption | omega | (dsimp only; omega)
theorem cdata0_spec {x : Str} {t : Tok} (ht : 1 ≤ s.toks) (hz : x.length ≤ 10000) (ha : has x "&" = false) (h0 : has x "<" = false) (h1 : has x ">" = false)
    {kk : Nat} (hkk : 4 ≤ kk) (C : Cx kk w A A₀ base h₀ env outer L mg mb loose mean) (F : Fr h₀ L s.heap m) (N : News h₀ L s.heap news)
    (h : ∀ h' tk t', 1 ≤ tk → Fr h₀ L h' m → News h₀ L h' news → R (.ok (.ret (.str x t'))) { s with heap := h', toks := tk }) :
    codeAny (model PR w) A (.call (.ref 245) ⟨[.str x t], []⟩) R s := by
  obtain ⟨B, X, T, hA, hf, hke, hdep, hun, hh⟩ := C
  refine' code_def (binds := [(Str.ofString "text", .str x t)]) B F X N T hA hf hke ?k6 ?k7 ?k8 ?k9 ?kB ?_ ?c2 ?c3 ?c4 ?c5
  case k6 => k_is
  case k7 => k_is
  case k8 => (first | omega | (have := hdep; omega))
  case k9 => exact BindsTo.of_eq rfl
  case c5 => decide
  case kB => exact locs rfl
  case c2 => exact rfl
  case c3 => exact rfl
  case c4 => exact rfl
  intro g' L' h' FG' F' N' B' X' T'
  (try dsimp only)
  (try k_fold)
  k_steps
  refine h _ _ _ ?_ ?_ ?_ <;> first | assumption | omega | (dsimp only; omega)
theorem attrib1_spec {x : Str} {t : Tok} (ht : 1 ≤ s.toks) (hz : x.length ≤ 10000) (ha : has x "&" = true) (h0 : has (Txt.replace x "&" "&amp;") "<" = false) (h1 : has (Txt.replace x "&" "&amp;") ">" = false) (h2 : has (Txt.replace x "&" "&amp;") "\"" = false) (h3 : has (Txt.replace x "&" "&amp;") "\r" = false) (h4 : has (Txt.replace x "&" "&amp;") "\n" = false) (h5 : has (Txt.replace x "&" "&amp;") "\t" = false)
    {kk : Nat} (hkk : 4 ≤ kk) (C : Cx kk w A A₀ base h₀ env outer L mg mb loose mean) (F : Fr h₀ L s.heap m) (N : News h₀ L s.heap news)
    (h : ∀ h' tk t', 1 ≤ tk → Fr h₀ L h' m → News h₀ L h' news → R (.ok (.ret (.str (Txt.replace x "&" "&amp;") t'))) { s with heap := h', toks := tk }) :
    codeAny (model PR w) A (.call (.ref 252) ⟨[.str x t], []⟩) R s := by
  obtain ⟨B, X, T, hA, hf, hke, hdep, hun, hh⟩ := C
  refine' code_def (binds := [(Str.ofString "text", .str x t)]) B F X N T hA hf hke ?k6 ?k7 ?k8 ?k9 ?kB ?_ ?c2 ?c3 ?c4 ?c5
  case k6 => k_is
  case k7 => k_is
  case k8 => (first | omega | (have := hdep; omega))
  case k9 => exact BindsTo.of_eq rfl
  case c5 => decide
  case kB => exact locs rfl
  case c2 => exact rfl
  case c3 => exact rfl
  case c4 => exact rfl
  intro g' L' h' FG' F' N' B' X' T'
  (try dsimp only)
  (try k_fold)
  k_steps
  refine h _ _ _ ?_ ?_ ?_ <;> first | assumption | omega | (dsimp only; omega)
theorem attrib0_spec {x : Str} {t : Tok} (ht : 1 ≤ s.toks) (hz : x.length ≤ 10000) (ha : has x "&" = false) (h0 : has x "<" = false) (h1 : has x ">" = false) (h2 : has x "\"" = false) (h3 : has x "\r" = false) (h4 : has x "\n" = false) (h5 : has x "\t" = false)
    {kk : Nat} (hkk : 4 ≤ kk) (C : Cx kk w A A₀ base h₀ env outer L mg mb loose mean) (F : Fr h₀ L s.heap m) (N : News h₀ L s.heap news)
    (h : ∀ h' tk t', 1 ≤ tk → Fr h₀ L h' m → News h₀ L h' news → R (.ok (.ret (.str x t'))) { s with heap := h', toks := tk }) :
    codeAny (model PR w) A (.call (.ref 252) ⟨[.str x t], []⟩) R s := by
  obtain ⟨B, X, T, hA, hf, hke, hdep, hun, hh⟩ := C
  refine' code_def (binds := [(Str.ofString "text", .str x t)]) B F X N T hA hf hke ?k6 ?k7 ?k8 ?k9 ?kB ?_ ?c2 ?c3 ?c4 ?c5
  case k6 => k_is
  case k7 => k_is
  case k8 => (first | omega | (have := hdep; omega))
  case k9 => exact BindsTo.of_eq rfl
  case c5 => decide
  case kB => exact locs rfl
  case c2 => exact rfl
  case c3 => exact rfl
  case c4 => exact rfl
  intro g' L' h' FG' F' N' B' X' T'
  (try dsimp only)
  (try k_fold)
  k_steps
  refine h _ _ _ ?_ ?_ ?_ <;> first | assumption | omega | (dsimp only; omega)
end

end Mine

theorem Mine.rs_wri : True ∧ True := by
  w_top off
  try (walk1; fail)
  exact ⟨True.intro, True.intro⟩

namespace Mine
-- needs: pre loop esc
section
noncomputable def exch (x : Str) : Str := Txt.replace (Txt.replace (Txt.replace x "amp;" "~") "&" "amp;") "~" "&"
noncomputable def okX (x : Str) : Bool := Nat.ble x.length 10000 && Nat.ble (Txt.replace x "amp;" "~").length 10000 && Nat.ble (Txt.replace (Txt.replace x "amp;" "~") "&" "amp;").length 10000
noncomputable def cleanC (y : Str) : Bool := !(has y "<") && !(has y ">")
noncomputable def cleanA (y : Str) : Bool := !(has y "<") && !(has y ">") && !(has y "\"") && !(has y "\r") && !(has y "\n") && !(has y "\t")
noncomputable def wok (k : Int) (x : Str) : Bool := if k = 0 then Nat.ble x.length 10000 && cleanC (amp x) else okX x && Nat.ble (exch x).length 10000 && cleanA (amp (exch x)) && okX (amp (exch x))
noncomputable def wnext (k : Int) (x : Str) : Str := if k = 0 then amp x else exch (amp (exch x))
noncomputable def wrun : List Int → Str → Option Str
  | [], x => if (Nat.ble x.length 10000 && Nat.ble (Txt.replace x "amp;" "b").length 10000) = true then some (Txt.replace (Txt.replace x "amp;" "b") "&" "a") else none
  | k :: ks, x => if wok k x = true then wrun ks (wnext k x) else none
theorem ble_of {a b : Nat} (h : Nat.ble a b = true) : a ≤ b := Nat.le_of_ble_eq_true h
end
local macro_rules | `(tactic| walk_at "execs cons") => `(tactic| ((with_reducible refine wpAny_execs_cons ?_); try dsimp only))
local macro_rules | `(tactic| walk_at "execs nil") => `(tactic| ((with_reducible refine wpAny_execs_nil ?_); try dsimp only))
local macro_rules | `(tactic| walk_at "ite") => `(tactic| first | refine iteT (by assumption) ?_ | refine iteF (by assumption) ?_)
local macro_rules | `(tactic| walk_at "m_tok") => `(tactic| first | assumption | omega | (exact tk1 (by assumption)) | (exact tk1 (tk1 (by assumption))) | (exact tk1 (tk1 (tk1 (by assumption)))) | (exact tk1 (tk1 (tk1 (tk1 (by assumption))))))
local macro_rules | `(tactic| walk_at "call builtin:str.replace") => `(tactic| (k_here; k_dflt (refine' replC ?u ?v ?e ?x ?z ?t ?_; (case u => walk_at "m_tok"); (case v => first | rfl | omega); (case e => decide); (case x => assumption); (case z => decide); (case t => walk_at "m_tok")); intro t' k hk))
section
variable {w : World} {A A₀ : Around} {s : Shared} {base h₀ : Heap} {env : Env} {outer : List Env} {L : Addr} {m mg mb : Str → Option Value} {news news' : List (Addr × Obj)} {loose : List Str} {mean : ExcName → Option Value} {R : Result → Shared → Prop}
theorem exch_spec' {x : Str} {t : Tok} (ht : 1 ≤ s.toks) (hz : okX x = true)
    {kk : Nat} (hkk : 4 ≤ kk) (C : Cx kk w A A₀ base h₀ env outer L mg mb loose mean) (F : Fr h₀ L s.heap m) (N : News h₀ L s.heap news)
    (h : ∀ h' tk t', 1 ≤ tk → Fr h₀ L h' m → News h₀ L h' news → R (.ok (.ret (.str (exch x) t'))) { s with heap := h', toks := tk }) :
    codeAny (model PR w) A (.call (.ref 290) ⟨[.str x t], []⟩) R s := by
  simp only [okX, Bool.and_eq_true] at hz
  exact exch_spec ht (ble_of hz.1.1) (ble_of hz.1.2) (ble_of hz.2) hkk C F N h
theorem cdata_spec {x : Str} {t : Tok} (ht : 1 ≤ s.toks) (hz : x.length ≤ 10000) (hc : cleanC (amp x) = true)
    {kk : Nat} (hkk : 4 ≤ kk) (C : Cx kk w A A₀ base h₀ env outer L mg mb loose mean) (F : Fr h₀ L s.heap m) (N : News h₀ L s.heap news)
    (h : ∀ h' tk t', 1 ≤ tk → Fr h₀ L h' m → News h₀ L h' news → R (.ok (.ret (.str (amp x) t'))) { s with heap := h', toks := tk }) :
    codeAny (model PR w) A (.call (.ref 245) ⟨[.str x t], []⟩) R s := by
  cases ha : has x "&" with
  | true =>
    rw [show amp x = Txt.replace x "&" "&amp;" from if_pos ha] at hc h
    simp only [cleanC, Bool.and_eq_true, Bool.not_eq_true'] at hc
    exact cdata1_spec ht hz ha hc.1 hc.2 hkk C F N h
  | false =>
    rw [show amp x = x from if_neg (by rw [ha]; decide)] at hc h
    simp only [cleanC, Bool.and_eq_true, Bool.not_eq_true'] at hc
    exact cdata0_spec ht hz ha hc.1 hc.2 hkk C F N h
theorem attrib_spec {x : Str} {t : Tok} (ht : 1 ≤ s.toks) (hz : x.length ≤ 10000) (hc : cleanA (amp x) = true)
    {kk : Nat} (hkk : 4 ≤ kk) (C : Cx kk w A A₀ base h₀ env outer L mg mb loose mean) (F : Fr h₀ L s.heap m) (N : News h₀ L s.heap news)
    (h : ∀ h' tk t', 1 ≤ tk → Fr h₀ L h' m → News h₀ L h' news → R (.ok (.ret (.str (amp x) t'))) { s with heap := h', toks := tk }) :
    codeAny (model PR w) A (.call (.ref 252) ⟨[.str x t], []⟩) R s := by
  cases ha : has x "&" with
  | true =>
    rw [show amp x = Txt.replace x "&" "&amp;" from if_pos ha] at hc h
    simp only [cleanA, Bool.and_eq_true, Bool.not_eq_true'] at hc
    obtain ⟨⟨⟨⟨⟨a, b⟩, c⟩, d⟩, e⟩, f⟩ := hc
    exact attrib1_spec ht hz ha a b c d e f hkk C F N h
  | false =>
    rw [show amp x = x from if_neg (by rw [ha]; decide)] at hc h
    simp only [cleanA, Bool.and_eq_true, Bool.not_eq_true'] at hc
    obtain ⟨⟨⟨⟨⟨a, b⟩, c⟩, d⟩, e⟩, f⟩ := hc
    exact attrib0_spec ht hz ha a b c d e f hkk C F N h
local macro_rules | `(tactic| walk_at "call ref") => `(tactic| (k_here; (with_reducible show wpAny _ _ (call (Value.ref 290) _ _) _ _ _); k_dflt (refine wpAny_call ?_; refine' exch_spec' ?t ?z ?k ?C ?F ?N ?_; (case t => walk_at "m_tok"); (case z => assumption); (case C => walk_at "m_cx"); (case k => omega); (case F => k_asm); (case N => k_asm)); intro h' tk t' htk F' N'; (try dsimp only)))
local macro_rules | `(tactic| walk_at "call ref") => `(tactic| (k_here; (with_reducible show wpAny _ _ (call (Value.ref 252) _ _) _ _ _); k_dflt (refine wpAny_call ?_; refine' attrib_spec ?t ?z ?c ?k ?C ?F ?N ?_; (case t => walk_at "m_tok"); (case z => assumption); (case c => assumption); (case C => walk_at "m_cx"); (case k => omega); (case F => k_asm); (case N => k_asm)); intro h' tk t' htk F' N'; (try dsimp only)))
local macro_rules | `(tactic| walk_at "call ref") => `(tactic| (k_here; (with_reducible show wpAny _ _ (call (Value.ref 245) _ _) _ _ _); k_dflt (refine wpAny_call ?_; refine' cdata_spec ?t ?z ?c ?k ?C ?F ?N ?_; (case t => walk_at "m_tok"); (case z => assumption); (case c => assumption); (case C => walk_at "m_cx"); (case k => omega); (case F => k_asm); (case N => k_asm)); intro h' tk t' htk F' N'; (try dsimp only)))
theorem written_spec {x y : Str} {t : Tok} {l : Addr} {n : Nat} {vs : List Value} {ns : List Int} (hi : IntsAre vs ns) (hml : (l, listOf vs.toArray n) ∈ news) (hns : ns.length ≤ 8) (hw : wrun ns.reverse x = some y)
    {kk : Nat} (hkk : 12 ≤ kk) (C : Cx kk w A A₀ base h₀ env outer L mg mb loose mean) (F : Fr h₀ L s.heap m) (N : News h₀ L s.heap news)
    (h : ∀ h' tk t', 1 ≤ tk → Fr h₀ L h' m → News h₀ L h' news → R (.ok (.ret (.str y t'))) { s with heap := h', toks := tk }) :
    codeAny (model PR w) A (.call (.ref 297) ⟨[.ref l, .str x t], []⟩) R s := by
  obtain ⟨B, X, T, hA, hf, hke, hdep, hun, hh⟩ := C
  refine' code_def (binds := [(Str.ofString "steps", .ref l), (Str.ofString "text", .str x t)]) B F X N T hA hf hke ?k6 ?k7 ?k8 ?k9 ?kB ?_ ?c2 ?c3 ?c4 ?c5
  case k6 => k_is
  case k7 => k_is
  case k8 => (first | omega | (have := hdep; omega))
  case k9 => exact BindsTo.of_eq rfl
  case c5 => decide
  case kB => exact locs rfl
  case c2 => exact rfl
  case c3 => exact rfl
  case c4 => exact rfl
  intro g' L' h' FG' F' N' B' X' T'
  (try dsimp only)
  (try k_fold)
  k_steps
  (with_reducible rename Fr _ _ _ _ => F1); (with_reducible rename News _ _ _ _ => N1); (with_reducible rename IntsAre _ ns.reverse => hi1)
  refine loop_list (fun m0 news0 i m₁ news₁ => news₁ = news0 ∧ ∃ ku x₁ t₁, m₁ = (fun z => if z = Str.ofString "text" then some (Value.str x₁ t₁) else if z = Str.ofString "kind" then ku else m0 z) ∧ wrun (ns.reverse.drop i) x₁ = some y) hh F1 N1 (List.Mem.head _) (.inl ⟨_, _, rfl⟩) ⟨rfl, _, x, t, two_back _, hw⟩ ?_ ?_
  · rintro i v m₁ news₁ h₁ tk₁ own I hv ⟨rfl, ku, x₁, t₁, rfl, hw₁⟩ hI hown F₁ N₁ htk
    simp only [List.getElem?_toArray] at hv
    obtain ⟨k, tk', hk, rfl⟩ := ints_at hi1 hv
    rw [drop_at hk] at hw₁
    unfold wrun at hw₁
    split at hw₁
    case isFalse => cases hw₁
    rename_i hok
    have h1 : 1 ≤ tk₁ := Nat.le_trans (Nat.le_add_left 1 _) htk
    clear F1 N1 htk hi1
    change Fr g' L' h₁ _ at F₁
    change News g' L' h₁ _ at N₁
    unfold wok at hok
    by_cases hk0 : k = 0
    · have hb : (k == 0) = true := by rw [hk0]; rfl
      rw [if_pos hk0] at hok
      obtain ⟨c1, c2⟩ := Bool.and_eq_true_iff.mp hok
      have c1 := ble_of c1
      k_steps
      (with_reducible rename Fr _ _ _ _ => F9); (with_reducible rename News _ _ _ _ => N9)
      refine Turn.next F9 N9 ?_ ⟨rfl, _, _, _, two_put _ _ _ _ _, ?_⟩
      · intro p hp; rw [List.mem_singleton]; exact hI p hp
      · rw [← hw₁, wnext, if_pos hk0]
    · have hb : (k == 0) = false := by simpa using hk0
      rw [if_neg hk0] at hok
      simp only [Bool.and_eq_true] at hok
      obtain ⟨⟨⟨c1, c2⟩, c3⟩, c4⟩ := hok
      have c2 := ble_of c2
      k_steps
      (with_reducible rename Fr _ _ _ _ => F9); (with_reducible rename News _ _ _ _ => N9)
      refine Turn.next F9 N9 ?_ ⟨rfl, _, _, _, two_put _ _ _ _ _, ?_⟩
      · intro p hp; rw [List.mem_singleton]; exact hI p hp
      · rw [← hw₁, wnext, if_neg hk0]
  · rintro h₁ tk₁ m₁ news₁ htk F₁ N₁ ⟨rfl, ku, x₁, t₁, rfl, hw₁⟩
    have h1 : 1 ≤ tk₁ := Nat.le_trans (Nat.le_add_left 1 _) htk
    rw [List.drop_eq_nil_of_le (by rw [List.size_toArray, hi1.length]; exact Nat.le_refl _)] at hw₁
    unfold wrun at hw₁
    split at hw₁
    case isFalse => cases hw₁
    rename_i hok
    obtain ⟨c1, c2⟩ := Bool.and_eq_true_iff.mp hok
    have c1 := ble_of c1
    have c2 := ble_of c2
    cases hw₁
    clear F1 N1 htk hi1
    change Fr g' L' h₁ _ at F₁
    change News g' L' h₁ _ at N₁
    dsimp only
    k_steps
    (with_reducible rename News _ _ _ _ => N9)
    refine h _ _ _ ?_ ?_ (news_tl N9) <;> assumption
end

end Mine

theorem Mine.rs_loc : True ∧ True := by
  w_top off
  try (walk1; fail)
  exact ⟨True.intro, True.intro⟩

namespace Mine
-- needs: pre
section
variable {w : World} {A A₀ : Around} {s : Shared} {base h₀ : Heap} {env : Env} {outer : List Env} {L : Addr} {m mg mb : Str → Option Value} {news news' : List (Addr × Obj)} {loose : List Str} {mean : ExcName → Option Value} {R : Result → Shared → Prop}
theorem loc_spec {p : Addr} {a b : Str} {ta tb : Tok} {n : Nat} (hm : (p, ({ cls := .type "tuple", data := .seq #[Value.str a ta, Value.str b tb] n } : Obj)) ∈ news) (ha : a.length ≤ 10000) (hb : b.length ≤ 10000)
    {kk : Nat} (hkk : 4 ≤ kk) (C : Cx kk w A A₀ base h₀ env outer L mg mb loose mean) (F : Fr h₀ L s.heap m) (N : News h₀ L s.heap news)
    (h : ∀ h' tk t', Fr h₀ L h' m → News h₀ L h' news → R (.ok (.ret (.str (a ++ Str.ofString "." ++ b) t'))) { s with heap := h', toks := tk }) :
    codeAny (model PR w) A (.call (.ref 52) ⟨[.ref p], []⟩) R s := by
  obtain ⟨B, X, T, hA, hf, hke, hdep, hun, hh⟩ := C
  refine' code_def (binds := [(Str.ofString "localetuple", .ref p)]) B F X N T hA hf hke ?k6 ?k7 ?k8 ?k9 ?kB ?_ ?c2 ?c3 ?c4 ?c5
  case k6 => k_is
  case k7 => k_is
  case k8 => (first | omega | (have := hdep; omega))
  case k9 => exact BindsTo.of_eq rfl
  case c5 => decide
  case kB => exact locs rfl
  case c2 => exact rfl
  case c3 => exact rfl
  case c4 => exact rfl
  intro g' L' h' FG' F' N' B' X' T'
  (try dsimp only)
  (try k_fold)
  k_steps
  refine h _ _ _ ?_ ?_ <;> assumption
end

end Mine

theorem Mine.rs_gro : True ∧ True := by
  w_top off
  try (walk1; fail)
  exact ⟨True.intro, True.intro⟩

namespace Mine
-- needs: pre tok loop
local macro_rules | `(tactic| walk_at "call ref") => `(tactic| (k_here; (with_reducible show wpAny _ _ (call (Value.ref 80) _ _) _ _ _); k_dflt (refine wpAny_call ?_; refine' get_spec ?k ?C ?F ?N ?a ?b ?g ?U ?z ?_; (case C => walk_at "m_cx"); (case k => omega); (case F => k_asm); (case N => k_asm); (case a => k_mem); (case b => k_mem); (case g => assumption); (case U => k_upd); (case z => walk_at "m_size")); intro h' tk F' N'; (try dsimp only)))
structure LineAt (rest : List (Addr × Obj)) (line d l : Addr) (es : List DictEntry) (ne : Nat) : Prop where
  m1 : (line, instObj 90 d) ∈ rest
  m2 : (d, dictOf es ne) ∈ rest
  g1 : getL "pushback" es = some (some (.ref l))
  g2 : getL "get_token" es = some none
  g3 : getL "push_token" es = some none
local macro_rules | `(tactic| walk_at "call ref") => `(tactic| (k_here; (with_reducible show wpAny _ _ (call (Value.ref 87) _ _) _ _ _); k_dflt (refine wpAny_call ?_; refine' push_spec ?k ?C ?F ?N ?a ?b ?g ?U ?z ?_; (case C => walk_at "m_cx"); (case k => omega); (case F => k_asm); (case N => k_asm); (case a => k_mem); (case b => k_mem); (case g => assumption); (case U => k_upd); (case z => walk_at "m_size")); intro h' tk F' N'; (try dsimp only)))
section
variable {w : World} {A A₀ : Around} {s : Shared} {base h₀ : Heap} {env : Env} {outer : List Env} {L : Addr} {m mg mb : Str → Option Value} {news news' : List (Addr × Obj)} {loose : List Str} {mean : ExcName → Option Value} {R : Result → Shared → Prop}
noncomputable def GPost (h₀ : Heap) (L : Addr) (s : Shared) (x : Str) (m : Str → Option Value) (news : List (Addr × Obj)) (f : Flow) (s₃ : Shared) : Prop :=
  f = .next ∧ ∃ h' tk' wu, s₃ = { s with heap := h', toks := tk' } ∧ Fr h₀ L h' (fun z => if z = x then wu else m z) ∧ News h₀ L h' news
theorem GPost.mk {L : Addr} {x : Str} {h' : Heap} {tk : Nat} {a b : Option Value} (F : Fr h₀ L h' (fun z => if z = x then a else if z = x then b else m z)) (N : News h₀ L h' news) : GPost h₀ L s x m news .next { s with heap := h', toks := tk } := by
  rw [one_put] at F
  exact ⟨rfl, h', tk, a, rfl, F, N⟩
theorem grow_loop {prog : Program} {x : Str} {px : Pos} {body : List Stmt} {Q : Flow → Shared → Prop} {l lr : Addr} {its : Array Value} {n0 k : Nat} {qs : List Value} {x2 x3 x4 : Addr × Obj} {rest : List (Addr × Obj)}
    (hh : A.handled = none) (F : Fr h₀ env.locals s.heap m) (N : News h₀ env.locals s.heap ((lr, listOf its n0) :: x2 :: x3 :: x4 :: (l, listOf qs.toArray k) :: rest))
    (hne : lr ≠ l ∧ x2.1 ≠ l ∧ x3.1 ≠ l ∧ x4.1 ≠ l) (hr : ∀ p ∈ rest, p.1 ≠ l)
    (step : ∀ v wu h tk i k' r, (qs ++ its.toList.take i).toArray.size ≤ qs.length + its.size → (∀ p ∈ r, p.1 ≠ l) → x4 ∈ r → (∀ p ∈ rest, p ∈ r) → Fr h₀ env.locals h (fun z => if z = x then wu else m z) → News h₀ env.locals h ((l, listOf (qs ++ its.toList.take i).toArray k') :: r) →
      wpAny (model prog w) A (assign (.Name x px) env v) (fun _ s₂ => wpAny (model prog w) A (execs body env) (GPost h₀ env.locals s x m ((l, listOf ((qs ++ its.toList.take i).toArray.push v) (k' + 1)) :: r)) (fun _ _ => False) s₂) (fun _ _ => False) { s with heap := h, toks := tk })
    (done : ∀ h' tk wu k', Fr h₀ env.locals h' (fun z => if z = x then wu else m z) → News h₀ env.locals h' ((l, listOf (qs ++ its.toList).toArray k') :: rest) → Q .next { s with heap := h', toks := tk }) :
    wpAny (model prog w) A (pyIter (.ref lr)) (fun it s₂ => LoopW prog w A h₀ env (.Name x px) body Q it s₂) (fun _ _ => False) s := by
  have N1 : News h₀ env.locals s.heap ((l, listOf qs.toArray k) :: (lr, listOf its n0) :: x2 :: x3 :: x4 :: rest) := fun p hp => N p (by
    simp only [List.mem_cons] at hp ⊢
    rcases hp with h | h | h | h | h | h <;> simp [h])
  have hne' : ∀ p ∈ (lr, listOf its n0) :: x2 :: x3 :: x4 :: rest, p.1 ≠ l := by
    intro p hp
    simp only [List.mem_cons] at hp
    rcases hp with rfl | rfl | rfl | rfl | h
    · exact hne.1
    · exact hne.2.1
    · exact hne.2.2.1
    · exact hne.2.2.2
    · exact hr p h
  refine loop_list (fun m0 news0 i m₁ news₁ => ∃ wu k', m₁ = (fun z => if z = x then wu else m z) ∧ news₁ = (l, listOf (qs ++ its.toList.take i).toArray k') :: (lr, listOf its n0) :: x2 :: x3 :: x4 :: rest) hh F N1 (.tail _ (.head _)) (.inl ⟨_, _, rfl⟩)
    ⟨_, k, one_back _, by simp⟩ ?_ ?_
  · rintro i v m₁ news₁ h₁ tk₁ own I hv ⟨wu, k', rfl, rfl⟩ hI hown F₁ N₁ htk
    have hlI : l ≠ I := hI _ (.head _)
    have hi : i < its.size := (Array.getElem?_eq_some_iff.mp hv).1
    have N₂ : News h₀ env.locals h₁ ((l, listOf (qs ++ its.toList.take i).toArray k') :: (own ++ (lr, listOf its n0) :: x2 :: x3 :: x4 :: rest)) := fun p hp => N₁ p (by
      rcases List.mem_cons.mp hp with rfl | hp
      · exact List.mem_append_right _ (.head _)
      · rcases List.mem_append.mp hp with hp | hp
        · exact List.mem_append_left _ hp
        · exact List.mem_append_right _ (.tail _ hp))
    refine wpAny_mono (step v wu h₁ tk₁ i k' _ (by simp only [List.size_toArray, List.length_append, List.length_take, Array.length_toList]; omega) ?_ (List.mem_append_right _ (.tail _ (.tail _ (.tail _ (.head _))))) (fun p hp => List.mem_append_right _ (.tail _ (.tail _ (.tail _ (.tail _ hp))))) F₁ N₂) (fun _ s₂ h₂ => wpAny_mono h₂ (fun f s₃ h₃ => ?_) fun _ _ e => e) fun _ _ e => e
    · intro p hp
      rcases List.mem_append.mp hp with hp | hp
      · rcases hown p hp with e | e
        · rw [e]; exact hlI.symm
        · rw [e]; exact hne.1
      · exact hne' p hp
    · obtain ⟨rfl, h', tk', wu', rfl, F', N'⟩ := h₃
      refine Turn.next F' (news₂ := (l, listOf ((qs ++ its.toList.take i).toArray.push v) (k' + 1)) :: (lr, listOf its n0) :: x2 :: x3 :: x4 :: rest) (fun p hp => N' p ?_) ?_ ⟨wu', k' + 1, rfl, ?_⟩
      · rcases List.mem_append.mp hp with hp | hp
        · exact .tail _ (List.mem_append_left _ hp)
        · rcases List.mem_cons.mp hp with rfl | hp
          · exact .head _
          · exact .tail _ (List.mem_append_right _ hp)
      · intro p hp hq
        rw [List.mem_singleton] at hq
        rcases List.mem_cons.mp hp with rfl | hp
        · exact hlI hq
        · exact hI p (.tail _ hp) hq
      · have : its.toList.take (i + 1) = its.toList.take i ++ [v] := by
          rw [List.take_add_one, Array.getElem?_toList, hv]; rfl
        rw [this]; simp
  · rintro h₁ tk₁ m₁ news₁ htk F₁ N₁ ⟨wu, k', rfl, rfl⟩
    refine done h₁ tk₁ wu k' F₁ fun p hp => ?_
    rw [show its.toList.take its.size = its.toList from List.take_of_length_le (by simp)] at N₁
    exact N₁ p (by
      rcases List.mem_cons.mp hp with rfl | hp
      · exact .head _
      · exact .tail _ (.tail _ (.tail _ (.tail _ (.tail _ hp)))))
theorem grown0_spec {line d l : Addr} {a b : Str} {ta tb tn tk0 : Tok} {n : Int} {qs : List Value} {es : List DictEntry} {ne k : Nat} {rest : List (Addr × Obj)}
    (h0 : 0 ≤ n) (h1 : n < 1000) (h2 : 0 ≤ n + Txt.count b (Str.ofString "&") + Txt.count b (Str.ofString ";")) (h3 : n + Txt.count b (Str.ofString "&") + Txt.count b (Str.ofString ";") < 1000) (ha : a.length ≤ 1000) (hb : b.length ≤ 1000) (hq : qs.length ≤ 900) (hr : ∀ p ∈ rest, p.1 ≠ l)
    (H : LineAt rest line d l es ne)
    {kk : Nat} (hkk : 12 ≤ kk) (C : Cx kk w A A₀ base h₀ env outer L mg mb loose mean) (F : Fr h₀ L s.heap m) (N : News h₀ L s.heap ((l, listOf (.str a ta :: .str b tb :: .str (Str.ofString (toString n)) tn :: qs).toArray k) :: rest))
    (h : ∀ h' tk k' (t1 t2 t3 t4 t5 t6 : Tok), Fr h₀ L h' m → News h₀ L h' ((l, listOf (qs ++ [Value.str (b ++ a) t1, Value.str b t2, Value.str (Str.ofString (toString n)) t3, Value.str (a ++ b) t4, Value.str b t5, Value.str (Str.ofString (toString (n + Txt.count b (Str.ofString "&") + Txt.count b (Str.ofString ";")))) t6]).toArray k') :: rest) → R (.ok (.ret .none)) { s with heap := h', toks := tk }) :
    codeAny (model PR w) A (.call (.ref 278) ⟨[.ref line, .int 0 tk0], []⟩) R s := by
  obtain ⟨B, X, T, hA, hf, hke, hdep, hun, hh⟩ := C
  obtain ⟨m1, m2, hg, hg2, hg3⟩ := H
  refine' code_defC (binds := [(Str.ofString "line", .ref line), (Str.ofString "kind", .int 0 tk0)]) B F X N T hA hf hke ?k6 ?k7 ?k8 ?k9 ?kB ?kD ?_ ?c2 ?c3 ?c4
  case k6 => k_is
  case k7 => k_is
  case k8 => (first | omega | (have := hdep; omega))
  case k9 => exact BindsTo.of_eq rfl
  case kB => exact rfl
  case kD => decide +kernel
  case c2 => exact rfl
  case c3 => exact rfl
  case c4 => exact rfl
  intro g' L' h' tk' cells' FG' F' N' Y' B' X' T' l1
  (try k_lt l1)
  k_cells Y'
  (try simp only [List.cons_append, List.nil_append] at N')
  (try dsimp only)
  (try k_fold)
  k_steps
  (with_reducible rename Fr _ _ _ _ => F1); (with_reducible rename News _ _ _ _ => N1)
  refine grow_loop hh F1 N1 (by refine ⟨?_, ?_, ?_, ?_⟩ <;> k_ne) hr ?_ ?_
  · intro v wu h9 tk9 i k9 r hi hrr hx hsub F9 N9
    replace hi : _ ≤ qs.length + 6 := hi
    have m1' := hsub _ m1
    have m2' := hsub _ m2
    clear F1 N1
    k_steps
    (with_reducible rename Fr _ _ _ _ => F8); (with_reducible rename News _ _ _ _ => N8)
    exact GPost.mk F8 N8
  · intro h9 tk9 wu k9 F9 N9
    clear F1 N1
    k_steps
    (with_reducible rename Fr _ _ _ _ => F8); (with_reducible rename News _ _ _ _ => N8)
    exact h _ _ _ _ _ _ _ _ _ F8 N8
theorem grown1_spec {line d l : Addr} {a b : Str} {ta tb tn tk0 : Tok} {n : Int} {qs : List Value} {es : List DictEntry} {ne k : Nat} {rest : List (Addr × Obj)}
    (h0 : 0 ≤ n) (h1 : n < 1000) (h2 : 0 ≤ n + Txt.count a (Str.ofString "&") + Txt.count a (Str.ofString ";")) (h3 : n + Txt.count a (Str.ofString "&") + Txt.count a (Str.ofString ";") < 1000) (ha : a.length ≤ 1000) (hb : b.length ≤ 1000) (hq : qs.length ≤ 900) (hr : ∀ p ∈ rest, p.1 ≠ l)
    (H : LineAt rest line d l es ne)
    {kk : Nat} (hkk : 12 ≤ kk) (C : Cx kk w A A₀ base h₀ env outer L mg mb loose mean) (F : Fr h₀ L s.heap m) (N : News h₀ L s.heap ((l, listOf (.str a ta :: .str b tb :: .str (Str.ofString (toString n)) tn :: qs).toArray k) :: rest))
    (h : ∀ h' tk k' (t1 t2 t3 t4 t5 t6 : Tok), Fr h₀ L h' m → News h₀ L h' ((l, listOf (qs ++ [Value.str a t1, Value.str (a ++ b) t2, Value.str (Str.ofString (toString n)) t3, Value.str a t4, Value.str (b ++ a) t5, Value.str (Str.ofString (toString (n + Txt.count a (Str.ofString "&") + Txt.count a (Str.ofString ";")))) t6]).toArray k') :: rest) → R (.ok (.ret .none)) { s with heap := h', toks := tk }) :
    codeAny (model PR w) A (.call (.ref 278) ⟨[.ref line, .int 1 tk0], []⟩) R s := by
  obtain ⟨B, X, T, hA, hf, hke, hdep, hun, hh⟩ := C
  obtain ⟨m1, m2, hg, hg2, hg3⟩ := H
  refine' code_defC (binds := [(Str.ofString "line", .ref line), (Str.ofString "kind", .int 1 tk0)]) B F X N T hA hf hke ?k6 ?k7 ?k8 ?k9 ?kB ?kD ?_ ?c2 ?c3 ?c4
  case k6 => k_is
  case k7 => k_is
  case k8 => (first | omega | (have := hdep; omega))
  case k9 => exact BindsTo.of_eq rfl
  case kB => exact rfl
  case kD => decide +kernel
  case c2 => exact rfl
  case c3 => exact rfl
  case c4 => exact rfl
  intro g' L' h' tk' cells' FG' F' N' Y' B' X' T' l1
  (try k_lt l1)
  k_cells Y'
  (try simp only [List.cons_append, List.nil_append] at N')
  (try dsimp only)
  (try k_fold)
  k_steps
  (with_reducible rename Fr _ _ _ _ => F1); (with_reducible rename News _ _ _ _ => N1)
  refine grow_loop hh F1 N1 (by refine ⟨?_, ?_, ?_, ?_⟩ <;> k_ne) hr ?_ ?_
  · intro v wu h9 tk9 i k9 r hi hrr hx hsub F9 N9
    replace hi : _ ≤ qs.length + 6 := hi
    have m1' := hsub _ m1
    have m2' := hsub _ m2
    clear F1 N1
    k_steps
    (with_reducible rename Fr _ _ _ _ => F8); (with_reducible rename News _ _ _ _ => N8)
    exact GPost.mk F8 N8
  · intro h9 tk9 wu k9 F9 N9
    clear F1 N1
    k_steps
    (with_reducible rename Fr _ _ _ _ => F8); (with_reducible rename News _ _ _ _ => N8)
    exact h _ _ _ _ _ _ _ _ _ F8 N8
end

end Mine

theorem Mine.rs_new : True ∧ True := by
  w_top off
  try (walk1; fail)
  exact ⟨True.intro, True.intro⟩

namespace Mine
-- needs: pre tok loop
noncomputable abbrev netD (P : Params) (fp : Value) (l : Addr) (a b c d e f : Tok) : List DictEntry :=
  [{ hash := PyData.keyHash P (Str.ofString "lineno"), key := .str (Str.ofString "lineno") a, val := .int 1 b },
   { hash := PyData.keyHash P (Str.ofString "instream"), key := .str (Str.ofString "instream") c, val := fp },
   { hash := PyData.keyHash P (Str.ofString "whitespace"), key := .str (Str.ofString "whitespace") d, val := .str (Str.ofString "\n\t\r ") e },
   { hash := PyData.keyHash P (Str.ofString "pushback"), key := .str (Str.ofString "pushback") f, val := .ref l }]
section
variable {w : World} {A A₀ : Around} {s : Shared} {base h₀ : Heap} {env : Env} {outer : List Env} {L : Addr} {m mg mb : Str → Option Value} {news news' : List (Addr × Obj)} {loose : List Str} {mean : ExcName → Option Value} {R : Result → Shared → Prop}
theorem new_spec {fp : Value} {Q : Value → Shared → Prop} {E : Value → Shared → Prop}
    {kk : Nat} (hkk : 6 ≤ kk) (C : Cx kk w A A₀ base h₀ env outer L mg mb loose mean) (F : Fr h₀ L s.heap m) (N : News h₀ L s.heap news)
    (h : ∀ h' tk x d l ta tb tc td te tf, Fr h₀ L h' m → News h₀ L h' ((l, listOf #[] 0) :: (x, instObj 90 d) :: (d, dictOf (netD w.params fp l ta tb tc td te tf) 4) :: news) → (∀ p ∈ news, p.1 < d) → @LT.lt Nat _ d x → @LT.lt Nat _ x l → Q (.ref x) { s with heap := h', toks := tk }) :
    wpAny (model PR w) A (call (.ref 90) [fp]) Q E s := by
  obtain ⟨B0, X, T, hA0, hf, hke, hdep0, hun0, hh0⟩ := C
  refine call_cls F X N (by k_is) (by k_is) (by k_is) fun x dx h1 F N l1 l2 => ?_
  (try k_lt2 l2)
  generalize hA1 : A.under (.builtin "type.__call__" ⟨.ref 90 :: [fp], []⟩) = A1
  have hA : A1.frames = some (env :: outer) := by rw [← hA1]; exact hA0
  have hdep : A1.depth + (kk - 1) < recursionLimit := by rw [← hA1]; show A.depth + 1 + (kk - 1) < _; omega
  have hun : A1.units + 4 * (kk - 1) < cLine := by rw [← hA1]; show A.units + 1 + 4 * (kk - 1) < _; omega
  have hh : A1.handled = none := by rw [← hA1]; exact hh0
  have B := B0
  have hne : ∀ p ∈ news, p.1 ≠ dx := fun p hp => Nat.ne_of_lt (l1 p hp)
  refine' code_def (binds := [(Str.ofString "self", .ref x), (Str.ofString "fp", fp)]) B F X N T hA hf hke ?k6 ?k7 ?k8 ?k9 ?kB ?_ ?c2 ?c3 ?c4 ?c5
  case k6 => k_is
  case k7 => k_is
  case k8 => (first | omega | (have := hdep; omega))
  case k9 => exact BindsTo.of_eq rfl
  case c5 => decide
  case kB => exact locs rfl
  case c2 => exact rfl
  case c3 => exact rfl
  case c4 => exact rfl
  intro g' L' h' FG' F' N' B' X' T'
  (try dsimp only)
  (try k_fold)
  k_steps
  (with_reducible rename Fr _ _ _ _ => F8); (with_reducible rename News _ _ _ _ => N8)
  refine h _ _ _ _ _ _ _ _ _ _ _ F8 N8 l1 ?_ ?_ <;> omega
end

end Mine

theorem Mine.rs_ext : True ∧ True := by
  w_top off
  try (walk1; fail)
  exact ⟨True.intro, True.intro⟩

namespace Mine
-- needs: pre re
section
variable {prog : Program} {w : World} {A : Around} {s : Shared} {h₀ : Heap} {L : Addr} {m : Str → Option Value}
theorem ext_loop {I S : Addr} {x : Str} {t : Tok} {R : Result → Shared → Prop} (hh : A.handled = none) (hIS : S ≠ I) (res : Value) :
    ∀ (k i : Nat) (s : Shared) (acc : Array Value) (c : Nat), x.cps.size - i = k → i ≤ x.cps.size → s.heap.IsStrIter I "str_ascii_iterator" x t i → s.heap.get? S = some (listOf acc c) → acc.size + k ≤ 1000 →
    (∀ h' tk acc' c', (∀ b o, b ≠ I → b ≠ S → s.heap.get? b = some o → h'.get? b = some o) → h'.get? S = some (listOf acc' c') → acc'.size = acc.size + k → R (.ok (.ret res)) { s with heap := h', toks := tk }) →
    codeAny (model prog w) A (.builtin "list.extend.loop" ⟨[.ref S, .ref I, res], []⟩) R s := by
  have W := Walks.strAscii (prog := prog) (w := w) (A := A.in1) hh I x t
  intro k
  induction k with
  | zero =>
    intro i s acc c hk hi hst hS hacc hR
    have hin : i = x.cps.size := by omega
    subst hin
    refine codeAny_builtin F.entry_extend_loop ?_
    rw [Around.under_plainId F.plain_extend_loop _]
    show wpAny _ A.in1 (pyNext (.ref I) >>= _) _ _ s
    refine wpAny_bind (W.done s _ _ hst fun h' tk hk => ?_)
    refine wpAny_pure (hR h' tk acc c (fun b o hb _ e => hk b o (by simpa using hb) e) (hk _ _ (by simpa using hIS) hS) rfl)
  | succ k ih =>
    intro i s acc c hk hi hst hS hacc hR
    have hlt : i < x.cps.size := by omega
    refine codeAny_builtin F.entry_extend_loop ?_
    rw [Around.under_plainId F.plain_extend_loop _]
    show wpAny _ A.in1 (pyNext (.ref I) >>= _) _ _ s
    refine wpAny_bind (W.item i s _ _ hlt hst fun v h' tk hP hst' hk' => ?_)
    have hS' : h'.get? S = some (listOf acc c) := hk' _ _ (by simpa using hIS) hS
    show wpAny _ A.in1 (updateSeq S (·.push v) >>= _) _ _ _
    refine wpAny_bind ?_
    refine wpAny_updateSeq hS' rfl (wpAny_pure ⟨plainId_quiet F.plain_extend_loop _, ih (i + 1) _ (acc.push v) _ (by omega) hlt ?_ (Heap.get?_update_self _ hS' rfl) (by rw [Array.size_push]; omega) fun h'' tk'' acc' c' hm hS'' hacc' => ?_⟩) (by rw [sizeLine_eq]; omega) (by rw [sizeLine_eq, Array.size_push]; omega)
    · obtain ⟨o, ho, r⟩ := hst'
      exact ⟨o, (Heap.get?_update_other _ _ hIS).trans ho, r⟩
    · refine hR h'' tk'' acc' c' (fun b o hb hbS e => hm b o hb hbS ?_) hS'' (by rw [hacc', Array.size_push]; omega)
      exact (Heap.get?_update_other _ _ (Ne.symm hbS)).trans (hk' b o (by simpa using hb) e)
theorem hint_str (S : Setting) (x : Str) (t : Tok) : peek [] S (Builtin.List.listLengthHint (.str x t)) = some false := by kernel_rfl
theorem extend_str {D : Addr} {its : Array Value} {n : Nat} {x : Str} {t : Tok} {rest : List (Addr × Obj)} {Q : Value → Shared → Prop} {E : Value → Shared → Prop} (hh : A.handled = none) (hx : x.cps.all (· < 128) = true) (F : Fr h₀ L s.heap m)
    (N : News h₀ L s.heap ((D, listOf its n) :: rest)) (hr : ∀ p ∈ rest, p.1 ≠ D) (hsz : its.size + x.cps.size ≤ 1000)
    (h : ∀ h' tk its' n', its'.size = its.size + x.cps.size → Fr h₀ L h' m → News h₀ L h' ((D, listOf its' n') :: rest) → Q .none { s with heap := h', toks := tk }) :
    wpAny (model prog w) A (call (.builtin "list.extend") [.ref D, .str x t]) Q E s := by
  have z := N _ (.head _)
  refine wpAny_call (codeAny_call_builtin PySem.F.slot_list_extend.plain PySem.F.entry_list_extend (PySem.F.slot_list_extend.check _ _ _ _ _ _ _ _ ⟨_, z.1, rfl⟩ (PySem.F.args_list_extend_2 _ _) ?_))
  show wpAny _ A.in1 (Builtin.List.listExtendWith (.ref D) (.str x t) .none) _ _ s
  unfold Builtin.List.listExtendWith
  refine wpAny_bind (m := typeOf (.str x t)) (wpAny_pure ?_)
  rw [show (Builtin.List.listSameRef (.ref D) (.str x t) || Value.type "str" == Value.type "list" || Value.type "str" == Value.type "tuple") = false from rfl]
  simp only [Bool.false_eq_true, if_false]
  refine wpAny_bind (wpAny_pyIter_ascii hx ?_)
  refine wpAny_bind (wpAny_holding ?_)
  refine (Looks.of_peek (M := model prog w) (K := []) (fun _ _ e => by cases e) (hint_str _ x t)).here ?_
  rw [show (false || (_ : List String).any fun y => Value.type "str" == Value.type y) = false from by rfl]
  simp only [Bool.false_eq_true, if_false]
  have hDI : D ≠ s.heap.objs.size := Nat.ne_of_lt (Heap.lt_size z.1)
  refine wpAny_pure ⟨plainId_quiet PySem.F.plain_extend_loop _, ext_loop hh hDI _ x.cps.size 0 _ its n (by omega) (Nat.zero_le _) ⟨_, Heap.get?_push_size _ rfl, rfl, rfl⟩ (Heap.get?_push_of_some _ z.1) hsz fun h' tk its' n' hk hD hs => ?_⟩
  have up : ∀ b o, b ≠ D → s.heap.get? b = some o → h'.get? b = some o := fun b o hb e => hk b o (fun q => by rw [q] at e; exact Nat.lt_irrefl _ (Heap.lt_size e)) hb (Heap.get?_push_of_some _ e)
  refine h h' tk its' n' hs ⟨F.ns.at' fun o e => up _ o (Ne.symm z.2.1) e, fun b o e => up b o (fun q => ?_) (F.keep b o e), F.above⟩ fun p hp => ?_
  · rw [q, z.2.2] at e; cases e
  · rcases List.mem_cons.mp hp with rfl | hp
    · exact ⟨hD, z.2⟩
    · exact ⟨up _ _ (hr p hp) (N p (.tail _ hp)).1, (N p (.tail _ hp)).2⟩
end

end Mine

theorem Mine.rs_lex : True ∧ True := by
  w_top off
  try (walk1; fail)
  exact ⟨True.intro, True.intro⟩

namespace Mine
-- needs: pre tok loop new re ext
local macro_rules | `(tactic| walk_at "call ref") => `(tactic| (k_here; (with_reducible show wpAny _ _ (call (Value.ref 90) _) _ _ _); k_dflt (refine' new_spec ?k ?C ?F ?N ?_; (case C => walk_at "m_cx"); (case k => omega); (case F => k_asm); (case N => k_asm)); intro h' tk x d l ta tb tc td te tf F' N' l1 l2 l3; (try k_lt l1); (try dsimp only)))
theorem ble_of' {a b : Nat} (h : Nat.ble a b = true) : a ≤ b := Nat.le_of_ble_eq_true h
theorem extend_strK {prog : Program} {w : World} {A : Around} {s : Shared} {h₀ : Heap} {L : Addr} {m : Str → Option Value} {D : Addr} {its : Array Value} {n k : Nat} {x : Str} {t : Tok} {rest : List (Addr × Obj)} {Q : Value → Shared → Prop} {E : Value → Shared → Prop} (hh : A.handled = none) (hx : x.cps.all (· < 128) = true) (F : Fr h₀ L s.heap m)
    (N : News h₀ L s.heap ((D, listOf its n) :: rest)) (hr : ∀ p ∈ rest, p.1 ≠ D) (hk : its.size = k) (hsz : Nat.ble (k + x.cps.size) 1000 = true)
    (h : ∀ h' tk its' n', its'.size = k + x.cps.size → Fr h₀ L h' m → News h₀ L h' ((D, listOf its' n') :: rest) → Q .none { s with heap := h', toks := tk }) :
    wpAny (model prog w) A (call (.builtin "list.extend") [.ref D, .str x t]) Q E s := by
  subst hk
  exact extend_str hh hx F N hr (ble_of' hsz) h
local macro_rules | `(tactic| walk_at "call builtin:list.extend") => `(tactic| (k_here; (with_reducible show wpAny _ _ (call (Value.builtin _) [Value.ref _, Value.str _ _]) _ _ _); k_dflt (refine' extend_strK ?h ?x ?F ?N ?r ?k ?z ?_; (case h => assumption); (case x => first | assumption | decide +kernel); (case F => k_asm); (case N => k_asm); (case r => assumption); (case k => assumption); (case z => decide +kernel)); intro h' tk' its' n' hs' F' N'))
local macro_rules | `(tactic| walk_at "eval Name") => `(tactic| (k_here; (with_reducible show wpAny _ _ (eval (Expr.Name _ _) (envX _ _ _ _ _ _)) _ _ _); k_dflt (refine' nameX_F ?N ?c ?m ?d ?_ ?a ?b; (case a => rfl); (case b => rfl); (case N => k_asm); (case c => rfl); (case m => exact List.mem_cons_of_mem _ (by with_reducible assumption)); (case d => assumption); k_whole)))
section
variable {w : World} {A : Around} {s : Shared} {h₀ : Heap} {L : Addr} {news : List (Addr × Obj)} {E : Value → Shared → Prop}
theorem lenK {l : Addr} {its : Array Value} {n k : Nat} {Q : Value → Shared → Prop} (N : News h₀ L s.heap news) (hm : (l, listOf its n) ∈ news) (hk : its.size = k) (hz : k ≤ 1000) (h : Q (.int k (s.toks + 1)) { s with toks := s.toks + 1 + 1 }) :
    wpAny (model PR w) A (call (.builtin "len") [.ref l]) Q E s := by
  subst hk
  exact call_len_list (N.isList hm) (by omega) h
end
local macro_rules | `(tactic| walk_at "call builtin:len") => `(tactic| (k_here; (with_reducible show wpAny _ _ (call (Value.builtin "len") [Value.ref _]) _ _ _); k_dflt (refine' lenK ?N ?m ?k ?z ?_; (case N => k_asm); (case m => exact List.Mem.head _); (case k => assumption); (case z => decide); k_whole)))
local macro_rules | `(tactic| k_mem) => `(tactic| first | with_reducible assumption | (refine List.mem_cons_of_mem _ ?_; with_reducible assumption))
noncomputable def Piece (w : World) (f gn : Addr) (fx : List (Addr × Obj)) (k : Nat) (y : Str) : Prop :=
  ∀ {A A₀ : Around} {s : Shared} {base h₀ : Heap} {env : Env} {outer : List Env} {L : Addr} {m mg mb : Str → Option Value} {loose : List Str} {mean : ExcName → Option Value} {Q : Value → Shared → Prop} {E : Value → Shared → Prop}
    {rest : List (Addr × Obj)} {its : Array Value} {n : Nat} {tk0 : Tok} {kk : Nat}, 6 ≤ kk → Cx kk w A A₀ base h₀ env outer L mg mb loose mean → Fr h₀ L s.heap m → News h₀ L s.heap ((gn, listOf its n) :: rest) → (∀ p ∈ rest, p.1 ≠ gn) → (∀ p ∈ fx, p ∈ rest) → its.size = k →
    (∀ h' tk its' n' t', its'.size = k + y.cps.size → Fr h₀ L h' m → News h₀ L h' ((gn, listOf its' n') :: rest) → Q (.str y t') { s with heap := h', toks := tk }) →
    wpAny (model PR w) A (call (.ref f) [.int 1 tk0]) Q E s
section
variable {w : World} {A A₀ : Around} {s : Shared} {base h₀ : Heap} {env : Env} {outer : List Env} {L : Addr} {m mg mb : Str → Option Value} {news news' : List (Addr × Obj)} {loose : List Str} {mean : ExcName → Option Value} {R : Result → Shared → Prop}
noncomputable abbrev LT : Str := Str.ofString "& amp; 0 "
noncomputable abbrev netR (P : Params) (l f : Addr) (a b c d e g i : Tok) : List DictEntry := netD P .none l a b c d e g ++ [{ hash := PyData.keyHash P (Str.ofString "read"), key := .str (Str.ofString "read") i, val := .ref f }]
noncomputable def pieces : List (Nat × Str) := [(0, "&"), (1, " "), (2, "a"), (3, "m"), (4, "p"), (5, ";"), (6, " "), (7, "0"), (8, " ")]
theorem lexer_raw {t : Tok} {rest : List (Addr × Obj)} (hC : CodeHd h₀ 258 254) (hr : ∀ p ∈ rest, p.1 ≠ 254)
    {kk : Nat} (hkk : 12 ≤ kk) (C : Cx kk w A A₀ base h₀ env outer L mg mb loose mean) (F : Fr h₀ L s.heap m) (N : News h₀ L s.heap ((254, tabObj #[]) :: rest))
    (h : ∀ h' tk l x d ta tb tc td te tf sa sb sc sd se sf sg f fo c oc gn l2 x2 d2 a1 o1 a2 o2 T0, Fr h₀ L h' m →
      News h₀ L h' ((l, listOf #[] 0) :: (x, instObj 90 d) :: (d, dictOf (netD w.params (.ref x2) l ta tb tc td te tf) 4) :: (f, fo) :: (c, oc) :: (gn, listOf #[] 0) :: (l2, listOf #[] 0) :: (x2, instObj 90 d2) :: (d2, dictOf (netR w.params l2 f sa sb sc sd se sf sg) 5) :: (a2, o2) :: (a1, o1) :: (254, T0) :: rest) →
      @LT.lt Nat _ 254 a1 ∧ @LT.lt Nat _ a1 a2 ∧ @LT.lt Nat _ a2 d2 ∧ @LT.lt Nat _ d2 x2 ∧ @LT.lt Nat _ x2 l2 ∧ @LT.lt Nat _ l2 gn ∧ @LT.lt Nat _ gn c ∧ @LT.lt Nat _ c f ∧ @LT.lt Nat _ f d ∧ @LT.lt Nat _ d x ∧ @LT.lt Nat _ x l →
      (∀ p ∈ rest, @LT.lt Nat _ p.1 a1) → (∃ v od fd sl, fo = ⟨v, od, .func fd, sl⟩) → (∃ ps, T0 = tabObj ps) → (∀ q ∈ pieces, Piece w f gn [(f, fo), (c, oc), (a2, o2), (a1, o1)] q.1 q.2) → R (.ok (.ret (.ref x))) { s with heap := h', toks := tk }) :
    codeAny (model PR w) A (.call (.ref 259) ⟨[.str LT t], []⟩) R s := by
  obtain ⟨B, X, T, hA, hf, hke, hdep, hun, hh⟩ := C
  refine' code_defC (binds := [(Str.ofString "text", .str LT t)]) B F X N T hA hf hke ?k6 ?k7 ?k8 ?k9 ?kB ?kD ?_ ?c2 ?c3 ?c4
  case k6 => k_is
  case k7 => k_is
  case k8 => (first | omega | (have := hdep; omega))
  case k9 => exact BindsTo.of_eq rfl
  case kB => exact rfl
  case kD => decide +kernel
  case c2 => exact rfl
  case c3 => exact rfl
  case c4 => exact rfl
  intro g' L' h' tk' cells' FG' F' N' Y' B' X' T' l1
  (try k_lt l1)
  k_cells Y'
  (try simp only [List.cons_append, List.nil_append] at N')
  (try dsimp only)
  (try k_fold)
  have hrL := allLt_mem l1.2
  have hC' := hC.keeps FG'.keep
  k_steps
  (with_reducible rename Fr _ _ _ _ => F8); (with_reducible rename News _ _ _ _ => N8)
  refine h _ _ _ _ _ _ _ _ _ _ _ _ _ _ _ _ _ _ _ _ _ _ _ _ _ _ _ _ _ _ _ F8 N8 (by omega) (fun p hp => Nat.lt_succ_of_lt (hrL p hp)) ⟨_, _, _, _, rfl⟩ ⟨_, rfl⟩ ?_
  clear h F8 N8 hrL hC' FG' F N hr hC hdep hun hh hA hf hke hkk l1 X T B
  intro q hq
  rintro A A₀ s base h₀ env outer L m mg mb loose mean Q E rest its n tk0 kk hkk C F N hr hfx hits h
  obtain ⟨B, X, T, hA, hf, hke, hdep, hun, hh⟩ := C
  have q1 := hfx _ (.head _)
  have q2 := hfx _ (.tail _ (.head _))
  have q3 := hfx _ (.tail _ (.tail _ (.head _)))
  have q4 := hfx _ (.tail _ (.tail _ (.tail _ (.head _))))
  clear hfx
  simp only [pieces, List.mem_cons, List.not_mem_nil, or_false] at hq
  rcases hq with rfl | rfl | rfl | rfl | rfl | rfl | rfl | rfl | rfl
  all_goals (
    refine wpAny_call ?_
    refine' code_nest (binds := [(Str.ofString "count", .int 1 tk0)]) B F X N T hA hf hke ?k6 ?k7 ?k8 ?k9 ?kB ?_ ?c2 ?c3 ?c4 ?c5
    case k6 => exact .tail _ q1
    case k7 => exact codeRec_news N (.tail _ q2) (by assumption) (by assumption)
    case k8 => omega
    case k9 => exact BindsTo.of_eq rfl
    case c5 => decide
    case kB => exact locs rfl
    case c2 => exact rfl
    case c3 => exact rfl
    case c4 => exact rfl
    intro g' L' h' FG' F' N' B' X' T'
    (try dsimp only)
    (try k_fold)
    k_steps
    (with_reducible rename Fr _ _ _ _ => F8); (with_reducible rename News _ _ _ _ => N8)
    exact h _ _ _ _ _ (by assumption) F8 N8)
end

end Mine

theorem Mine.rs_rd : True ∧ True := by
  w_top off
  try (walk1; fail)
  exact ⟨True.intro, True.intro⟩

namespace Mine
-- needs: pre tok loop new re ext esc lex
structure Lex (w : World) (rest : List (Addr × Obj)) (line d l gn st d2 f : Addr) (es es2 : List DictEntry) (te : Tok) (fo : Obj) (fx : List (Addr × Obj)) : Prop where
  m1 : (line, instObj 90 d) ∈ rest
  m2 : (d, dictOf es 4) ∈ rest
  g1 : getL "pushback" es = some (some (.ref l))
  g2 : getL "get_token" es = some none
  g3 : getL "push_token" es = some none
  g4 : getL "_read_char" es = some none
  g5 : getL "instream" es = some (some (.ref st))
  g6 : getL "whitespace" es = some (some (.str "\n\t\r " te))
  m3 : (st, instObj 90 d2) ∈ rest
  m4 : (d2, dictOf es2 5) ∈ rest
  g7 : getL "read" es2 = some (some (.ref f))
  mf : (f, fo) ∈ rest
  ff : ∃ v od fd sl, fo = ⟨v, od, .func fd, sl⟩
  fxs : ∀ p ∈ fx, p ∈ rest
  pc : ∀ q ∈ pieces, Piece w f gn fx q.1 q.2
local macro_rules | `(tactic| walk_at "ite") => `(tactic| first | refine iteT (by assumption) ?_ | refine iteF (by assumption) ?_)
local macro_rules | `(tactic| k_mem) => `(tactic| first | with_reducible assumption | (refine List.mem_cons_of_mem _ ?_; with_reducible assumption))
theorem fnAt_of {h₀ h : Heap} {L f : Addr} {fo : Obj} {news : List (Addr × Obj)} (N : News h₀ L h news) (hm : (f, fo) ∈ news) (hf : ∃ v od fd sl, fo = ⟨v, od, .func fd, sl⟩) : FnAt f h := by
  obtain ⟨v, od, fd, sl, rfl⟩ := hf
  exact ⟨v, od, fd, sl, (N _ hm).1⟩
local macro_rules | `(tactic| walk_at "FnAt") => `(tactic| (k_dflt (exact fnAt_of (by k_asm) (by k_mem) (by assumption))))
local macro_rules | `(tactic| walk_at "callWith ref") => `(tactic| (k_here; k_dflt (refine callWith_F (fnAt_of (by k_asm) (by k_mem) (by assumption)) ?_)))
local macro_rules | `(tactic| walk_at "call ref") => `(tactic| (k_here; (with_reducible rename Piece _ _ _ _ _ _ => pcX); k_dflt (refine' pcX ?k ?C ?F ?N ?r ?x ?s ?_; (case C => walk_at "m_cx"); (case k => omega); (case F => k_asm); (case N => k_asm); (case r => assumption); (case x => assumption); (case s => assumption)); intro h' tk its' n' t' hs' F' N'; (try dsimp only)))
section
variable {w : World} {A A₀ : Around} {s : Shared} {base h₀ : Heap} {env : Env} {outer : List Env} {L : Addr} {m mg mb : Str → Option Value} {news news' : List (Addr × Obj)} {loose : List Str} {mean : ExcName → Option Value} {R : Result → Shared → Prop}
theorem read_char_spec {rest fx : List (Addr × Obj)} {line d l gn st d2 f : Addr} {es es2 : List DictEntry} {te : Tok} {fo : Obj} {its : Array Value} {n k : Nat} {y : Str} (H : Lex w rest line d l gn st d2 f es es2 te fo fx) (hr : ∀ p ∈ rest, p.1 ≠ gn) (hits : its.size = k) (hq : (k, y) ∈ pieces) (hy : (y == Str.ofString "\n") = false)
    {kk : Nat} (hkk : 9 ≤ kk) (C : Cx kk w A A₀ base h₀ env outer L mg mb loose mean) (F : Fr h₀ L s.heap m) (N : News h₀ L s.heap ((gn, listOf its n) :: rest))
    (h : ∀ h' tk its' n' t', its'.size = k + y.cps.size → Fr h₀ L h' m → News h₀ L h' ((gn, listOf its' n') :: rest) → R (.ok (.ret (.str y t'))) { s with heap := h', toks := tk }) :
    codeAny (model PR w) A (.call (.ref 73) ⟨[.ref line], []⟩) R s := by
  obtain ⟨m1, m2, g1, g2, g3, g4, g5, g6, m3, m4, g7, mf, ff, fxs, pc⟩ := H
  obtain ⟨B, X, T, hA, hf, hke, hdep, hun, hh⟩ := C
  have pcq : Piece w f gn fx k y := @pc (k, y) hq
  clear pc
  refine' code_def (binds := [(Str.ofString "self", .ref line)]) B F X N T hA hf hke ?k6 ?k7 ?k8 ?k9 ?kB ?_ ?c2 ?c3 ?c4 ?c5
  case k6 => k_is
  case k7 => k_is
  case k8 => (first | omega | (have := hdep; omega))
  case k9 => exact BindsTo.of_eq rfl
  case c5 => decide
  case kB => exact locs rfl
  case c2 => exact rfl
  case c3 => exact rfl
  case c4 => exact rfl
  intro g' L' h' FG' F' N' B' X' T'
  (try dsimp only)
  (try k_fold)
  k_steps
  (with_reducible rename Fr _ _ _ _ => F8); (with_reducible rename News _ _ _ _ => N8)
  exact h _ _ _ _ _ (by assumption) F8 N8
end

end Mine

theorem Mine.rs_ci : True ∧ True := by
  w_top off
  try (walk1; fail)
  exact ⟨True.intro, True.intro⟩

namespace Mine
-- needs: pre
section
open PySem
theorem slot_ci_next : Slot "callable_iterator" "__next__" "callable_iterator.__next__" :=
  .of (owner := "callable_iterator") (n := "__next__") (by rw [typeLookup_type, builtinLookup_eq_fast]; kernel_rfl) (by decide +kernel) (by decide +kernel) (by decide +kernel)
    (by first | exact .inl (by decide +kernel) | exact .inr (by decide +kernel)) (by rw [isSubtype_type]; kernel_rfl)
theorem entry_ci_next : entryFor table "callable_iterator.__next__" = some Builtin.«callable_iterator.__next__» := entryFor_of_tree (by kernel_rfl)
theorem args_ci_next (a : Value) : argsOk "callable_iterator.__next__" ⟨[a], []⟩ := by
  unfold argsOk; kernel_rfl
theorem look_ci_iter : typeLookup (.type "callable_iterator") "__iter__" = pure (some (.builtin "callable_iterator.__iter__")) := by rw [typeLookup_type, builtinLookup_eq_fast]; kernel_rfl
theorem slot_ci_iter : Slot "callable_iterator" "__iter__" "callable_iterator.__iter__" :=
  .of (owner := "callable_iterator") (n := "__iter__") look_ci_iter (by decide +kernel) (by decide +kernel) (by decide +kernel)
    (by first | exact .inl (by decide +kernel) | exact .inr (by decide +kernel)) (by rw [isSubtype_type]; kernel_rfl)
theorem entry_ci_iter : entryFor table "callable_iterator.__iter__" = some Builtin.«dict_keyiterator.__iter__» :=
  entryFor_alias (id' := "dict_keyiterator.__iter__") (by kernel_rfl) rfl (by decide +kernel) (by kernel_rfl)
theorem args_ci_iter (a : Value) : argsOk "callable_iterator.__iter__" ⟨[a], []⟩ := by
  unfold argsOk; kernel_rfl
theorem borrowed_eq (f : Value) (pos : List Value) : callBorrowed f pos = (call f pos).keep [borrowed] := by
  unfold callBorrowed call runValue run
  show Sem.call _ _ _ _ _ = Sem.call _ _ _ _ _
  congr 1
  funext r
  cases r with
  | error e => rfl
  | ok f => cases f <;> rfl
noncomputable abbrev ciObj (bm : Addr) (t : Tok) : Obj := { cls := .type "callable_iterator", data := .fields #[.ref bm, .str (Str.ofString "") t, .bool false] }
theorem kind_iter : builtinKind "iter" = none := by decide +kernel
theorem plain_iter : plainId "iter" = true := by decide +kernel
theorem entry_iter : entryFor table "iter" = some Builtin.«iter» := entryFor_of_fast (by kernel_rfl)
theorem args_iter (a b : Value) : argsOk "iter" ⟨[a, b], []⟩ := by unfold argsOk; kernel_rfl
theorem look_meth_call : typeLookup (.type "method") "__call__" = pure (some (.builtin "method.__call__")) := by rw [typeLookup_type, builtinLookup_eq_fast]; kernel_rfl
end
section
variable {w : World} {A : Around} {s : Shared} {h₀ : Heap} {L : Addr} {m : Str → Option Value} {news : List (Addr × Obj)} {E : Value → Shared → Prop}
theorem fn_load {f : Addr} {P : Params} (hf : ∃ v od fd sl, (hd.heap_1 P).lookup f = some ⟨v, od, .func fd, sl⟩) (X : (hd.heap_1 P).In s.heap) : ∃ v od fd sl, s.heap.get? f = some ⟨v, od, .func fd, sl⟩ := by
  obtain ⟨v, od, fd, sl, e⟩ := hf
  exact ⟨v, od, fd, sl, X _ _ e⟩
theorem next_ci {I bm f line : Addr} {t0 : Tok} {Q : Option Value → Shared → Prop} (N : News h₀ L s.heap news) (hI : (I, ciObj bm t0) ∈ news) (hb : (bm, methodObj (.ref f) (.ref line)) ∈ news) (hf : ∃ v od fd sl, s.heap.get? f = some ⟨v, od, .func fd, sl⟩)
    (h : codeAny (model PR w) A.in1 (.call (.ref f) ⟨[.ref line], []⟩) (fun r s' => match r with | .ok (.ret v) => (∃ y t', v = .str y t' ∧ (Str.ofString "" == y) = false ∧ s'.heap.get? I = some (ciObj bm t0)) ∧ Q (some v) s' | _ => False) s) :
    wpAny (model PR w) A (pyNext (.ref I)) Q E s := by
  obtain ⟨v, od, fd, sl, hf⟩ := hf
  have zI := (N _ hI).1
  have zb := (N _ hb).1
  have hT : s.TypeIs (.ref I) "callable_iterator" := ⟨_, zI, rfl⟩
  unfold pyNext
  refine wpAny_bind (wpAny_attempt (wpAny_callSpecial?_slot (name := Str.ofString "__next__") hT slot_ci_next (wpAny_call_entry slot_ci_next hT entry_ci_next ?_ (args_ci_next _))))
  show wpAny _ _ (field (.ref I) 2 >>= _) _ _ s
  refine wpAny_bind (wpAny_field zI rfl (x := .bool false) rfl ?_)
  rw [if_neg (by decide)]
  show wpAny _ _ (field (.ref I) 0 >>= _) _ _ s
  refine wpAny_bind (wpAny_field zI rfl (x := .ref bm) rfl ?_)
  refine wpAny_bind (wpAny_attempt ?_)
  unfold callOutOfASlot
  refine wpAny_bind (m := borrowsExactly (.ref bm)) ?_
  unfold borrowsExactly
  refine wpAny_bind (wpAny_load zb ?_)
  show wpAny _ _ (load f >>= _) _ _ s
  refine wpAny_bind (wpAny_load hf ?_)
  refine wpAny_pure ?_
  rw [if_pos rfl, borrowed_eq]
  refine Calls.wpAny_keep (wpAny_call (method_call zb (codeAny_mono h fun r s' hr => ?_)))
  cases r with
  | error e => exact hr.elim
  | ok fl =>
    cases fl with
    | ret v =>
      obtain ⟨⟨y, t', rfl, hy, hI'⟩, hQ⟩ := hr
      dsimp only
      refine wpAny_bind (wpAny_field hI' rfl (x := .bool false) rfl ?_)
      rw [if_neg (by decide)]
      refine wpAny_bind (wpAny_field hI' rfl (x := .str (Str.ofString "") t0) rfl ?_)
      refine wpAny_bind (wpAny_holding (eqBool_str ?_))
      rw [hy]
      exact wpAny_pure ⟨_, rfl, wpAny_pure hQ⟩
    | _ => exact hr.elim
theorem iter_ci {I bm : Addr} {t0 : Tok} {Q : Value → Shared → Prop} (N : News h₀ L s.heap news) (hI : (I, ciObj bm t0) ∈ news) (h : Q (.ref I) s) : wpAny (model PR w) A (pyIter (.ref I)) Q E s := by
  have hT : s.TypeIs (.ref I) "callable_iterator" := ⟨_, (N _ hI).1, rfl⟩
  refine wpAny_pyIter_slot hT slot_ci_iter (wpAny_call_entry slot_ci_iter hT entry_ci_iter ?_ (args_ci_iter _))
  show wpAny _ _ (ret (.ref I)) _ _ s
  exact wpAny_pure ⟨_, rfl, "callable_iterator", _, hT, slot_ci_next.lookup, h⟩
theorem iter2 {bm : Addr} {f self : Value} {t0 : Tok} {Q : Value → Shared → Prop} (F : Fr h₀ L s.heap m) (N : News h₀ L s.heap news) (hb : (bm, methodObj f self) ∈ news)
    (h : ∀ I h', Fr h₀ L h' m → News h₀ L h' ((I, ciObj bm t0) :: news) → (∀ p ∈ news, p.1 < I) → Q (.ref I) { s with heap := h' }) :
    wpAny (model PR w) A (call (.builtin "iter") [.ref bm, .str (Str.ofString "") t0]) Q E s := by
  have zb := (N _ hb).1
  have hT : s.TypeIs (.ref bm) "method" := ⟨_, zb, rfl⟩
  refine call_function_entry kind_iter plain_iter entry_iter (args_iter _ _) ?_
  unfold Builtin.«iter»
  refine wpAny_bind (m := someArgs "iter" 1 2 _) (wpAny_pure ?_)
  dsimp only
  refine wpAny_bind (wpAny_specialOf hT look_meth_call ?_)
  rw [if_neg (by decide)]
  refine wpAny_bind (wpAny_rule ?_)
  show wpAny _ _ (newObj (.type "callable_iterator") (.fields #[.ref bm, .str (Str.ofString "") t0, .bool false]) >>= _) _ _ s
  refine wpAny_bind (wpAny_newObj_type ?_)
  refine wpAny_pure ⟨_, rfl, ?_⟩
  refine h _ _ (F.keeps fun b o e => Heap.get?_push_of_some _ e) (fun p hp => ?_) fun p hp => Heap.lt_size (N p hp).1
  rcases List.mem_cons.mp hp with rfl | hp
  · refine ⟨Heap.get?_push_size _ rfl, Nat.ne_of_gt F.ns.lt, next_is_new F⟩
  · exact ⟨Heap.get?_push_of_some _ (N p hp).1, (N p hp).2⟩
end

end Mine

theorem Mine.rs_gr : True ∧ True := by
  w_top off
  try (walk1; fail)
  exact ⟨True.intro, True.intro⟩

namespace Mine
-- needs: pre tok loop new re ext esc lex rd ci
section
variable {prog : Program} {w : World} {A : Around} {s : Shared} {env : Env} {h₀ : Heap}
noncomputable def RTurn (I : Nat → Shared → Prop) (n : Nat) (Q : Flow → Shared → Prop) (f : Flow) (s₃ : Shared) : Prop := match f with
  | .brk => Q .next s₃
  | .ret v => Q (.ret v) s₃
  | _ => ∃ m, m < n ∧ I m s₃
noncomputable def RawW (prog : Program) (w : World) (A : Around) (env : Env) (target : Expr) (body : List Stmt) (Q : Flow → Shared → Prop) (it : Value) (s : Shared) : Prop :=
  ∃ (I : Nat → Shared → Prop) (n : Nat), I n s ∧ ∀ n s', I n s' → wpAny (model prog w) A (pyNext it) (fun r s₁ => ∃ v, r = some v ∧ wpAny (model prog w) A (assign target env v) (fun _ s₂ => wpAny (model prog w) A (execs body env) (RTurn I n Q) (fun _ _ => False) s₂) (fun _ _ => False) s₁) (fun _ _ => False) s'
theorem raw_walk {x : Str} {p : Pos} {body : List Stmt} {it : Value} {R : Result → Shared → Prop} (h : RawW prog w A env (.Name x p) body (fun f s' => R (.ok f) s') it s) : codeAny (model prog w) A (.forLoop (.Name x p) it body [] env) R s := by
  obtain ⟨I, n, h0, turn⟩ := h
  refine codeAny_forLoop_any I (fun n s' hI => ?_) n h0
  refine noErr (wpAny_mono (turn n s' hI) (fun r s₁ h₁ => ?_) fun _ _ e => e)
  obtain ⟨v, rfl, h₁⟩ := h₁
  refine wpAny_pure (noErr (wpAny_mono h₁ (fun _ s₂ h₂ => noErr (wpAny_mono h₂ (fun f s₃ h₃ => ?_) fun _ _ e => e)) fun _ _ e => e))
  cases f <;> exact h₃
theorem For_rawF {E : Value → Shared → Prop} {Q : Flow → Shared → Prop} {x : Str} {p : Pos} {iter : Expr} {pos : Pos} {body : List Stmt} {L : Addr} {m : Str → Option Value} (_F : Fr h₀ L s.heap m)
    (h : wpAny (model prog w) A (eval iter env) (fun xv s₁ => wpAny (model prog w) A (pyIter xv) (fun it s₂ => RawW prog w A env (.Name x p) body Q it s₂) (fun _ _ => False) s₁) (fun _ _ => False) s)
    (hs : ∀ x, foldedSetIterable iter env x = pure x) : wpAny (model prog w) A (exec (.For (.Name x p) iter body [] pos) env) Q E s :=
  noErr (wpAny_For (wpAny_mono h (fun xv s₁ h₁ => wpAny_mono h₁ (fun it s₂ h₂ => raw_walk (R := fun r s' => match r with | .ok f => Q f s' | .error e => cameBackBy (model prog w) A env (fun _ _ => False) e s') h₂) fun _ _ e => e) fun _ _ e => e) hs)
end
local macro_rules | `(tactic| walk_at "ite") => `(tactic| first | refine iteT (by assumption) ?_ | refine iteF (by assumption) ?_)
local macro_rules | `(tactic| k_mem) => `(tactic| first | with_reducible assumption | (refine List.mem_cons_of_mem _ ?_; with_reducible assumption))
local macro_rules | `(tactic| walk_at "exec For") => `(tactic| (k_here; k_dflt (refine' For_rawF ?F ?_ ?hs; (case F => k_asm)); (case hs => (intro _; with_unfolding_all rfl))))
local macro_rules | `(tactic| walk_at "call builtin:iter") => `(tactic| (k_here; k_dflt (refine' iter2 ?F ?N ?b ?_; (case F => k_asm); (case N => k_asm); (case b => first | k_mem | exact List.Mem.head _)); intro I' h' F' N' l1))
local macro_rules | `(tactic| walk_at "getAttr ref") => `(tactic| (k_here; k_dflt (refine' kbm_bound ?k1 ?k2 ?k3 ?k4 ?k5 ?k6 ?k7 ?k8 ?k9 ?k10 ?k11 ?k12 ?_; (case k4 => k_inst); (case k1 => k_asm); (case k2 => k_asm); (case k7 => k_is); (case k3 => k_asm); (case k5 => k_is); (case k6 => k_is); (case k8 => k_is); (case k9 => k_is); (case k10 => k_is); (case k11 => decide +kernel); (case k12 => assumption); k_whole); intro q' h' F' N' l1))
local macro_rules | `(tactic| walk_at "pyIter ref") => `(tactic| (k_here; k_dflt (refine' iter_ci ?N ?b ?_; (case N => k_asm); (case b => first | k_mem | exact List.Mem.head _))))
section
variable {w : World} {A A₀ : Around} {s : Shared} {base h₀ : Heap} {env : Env} {outer : List Env} {L : Addr} {m mg mb : Str → Option Value} {news news' : List (Addr × Obj)} {loose : List Str} {mean : ExcName → Option Value} {R : Result → Shared → Prop}
theorem Lex.mono {rest rest' fx : List (Addr × Obj)} {line d l gn st d2 f : Addr} {es es2 : List DictEntry} {te : Tok} {fo : Obj} (H : Lex w rest line d l gn st d2 f es es2 te fo fx) (hs : ∀ p ∈ rest, p ∈ rest') : Lex w rest' line d l gn st d2 f es es2 te fo fx :=
  ⟨hs _ H.m1, hs _ H.m2, H.g1, H.g2, H.g3, H.g4, H.g5, H.g6, hs _ H.m3, hs _ H.m4, H.g7, hs _ H.mf, H.ff, fun p hp => hs _ (H.fxs p hp), H.pc⟩
theorem next_read {rest fx : List (Addr × Obj)} {line d l gn st d2 f I q : Addr} {es es2 : List DictEntry} {te t0 : Tok} {fo : Obj} {its : Array Value} {n k : Nat} {y : Str} {Q : Option Value → Shared → Prop} {E : Value → Shared → Prop} (H : Lex w rest line d l gn st d2 f es es2 te fo fx) (hr : ∀ p ∈ rest, p.1 ≠ gn) (hIq : I ≠ gn ∧ q ≠ gn)
    (hits : its.size = k) (hq : (k, y) ∈ pieces) (hy : (y == Str.ofString "\n") = false) (hne : (Str.ofString "" == y) = false)
    {kk : Nat} (hkk : 9 ≤ kk) (C : Cx kk w A.in1 A₀ base h₀ env outer L mg mb loose mean) (F : Fr h₀ L s.heap m) (N : News h₀ L s.heap ((I, ciObj q t0) :: (q, methodObj (.ref 73) (.ref line)) :: (gn, listOf its n) :: rest))
    (h : ∀ h' tk its' n' t', its'.size = k + y.cps.size → Fr h₀ L h' m → News h₀ L h' ((I, ciObj q t0) :: (q, methodObj (.ref 73) (.ref line)) :: (gn, listOf its' n') :: rest) → Q (some (.str y t')) { s with heap := h', toks := tk }) :
    wpAny (model PR w) A (pyNext (.ref I)) Q E s := by
  have X := C.X
  refine next_ci N (.head _) (.tail _ (.head _)) ⟨_, _, _, _, (X.keeps F.keep) _ _ (by k_is)⟩ ?_
  have N1 : News h₀ L s.heap ((gn, listOf its n) :: (I, ciObj q t0) :: (q, methodObj (.ref 73) (.ref line)) :: rest) := fun p hp => N p (by
    simp only [List.mem_cons] at hp ⊢
    rcases hp with h | h | h | h <;> simp [h])
  refine read_char_spec (H.mono fun p hp => .tail _ (.tail _ hp)) ?_ hits hq hy hkk C F N1 fun h' tk its' n' t' hs F' N' => ?_
  · intro p hp
    simp only [List.mem_cons] at hp
    rcases hp with rfl | rfl | hp
    · exact hIq.1
    · exact hIq.2
    · exact hr p hp
  · refine ⟨⟨_, _, rfl, hne, (N' (I, ciObj q t0) (.tail _ (.head _))).1⟩, h h' tk its' n' t' hs F' fun p hp => N' p (by
      simp only [List.mem_cons] at hp ⊢
      rcases hp with h | h | h | h <;> simp [h])⟩
structure OkC (y : Str) : Prop where
  o1 : has (Str.ofString "\n\t\r ") y = false
  o2 : (y == Str.ofString "\"") = false
  o3 : (y == Str.ofString "\\") = false
  o4 : (y == Str.ofString "\n") = false
  o5 : (Str.ofString "" == y) = false
  o6 : y.cps.size = 1
  o7 : y.length ≤ 10
noncomputable def tokOf (c0 : Str) (cs : List Str) (i : Nat) : Str := (cs.take i).foldl (· ++ ·) (Str.ofString "" ++ c0)
theorem tokOf_succ {c0 c : Str} {cs : List Str} {i : Nat} (h : cs[i]? = some c) : tokOf c0 cs (i + 1) = tokOf c0 cs i ++ c := by
  unfold tokOf
  rw [List.take_add_one, h, List.foldl_append]
  rfl
theorem map_next {T C : Str} (hTC : T ≠ C) {a b c d : Option Value} {m : Str → Option Value} : (fun z => if z = T then a else if z = C then b else if z = C then c else if z = T then d else m z) = fun z => if z = C then b else if z = T then a else m z := by
  funext z
  by_cases h1 : z = T
  · have : z ≠ C := fun e => hTC (h1 ▸ e)
    simp [h1, hTC]
  · by_cases h2 : z = C
    · simp [h1, h2]
      intro e; exact absurd e.symm hTC
    · simp [h1, h2]
noncomputable def InnerI (g : Heap) (L : Addr) (s : Shared) (m9 : Str → Option Value) (I q gn line : Addr) (t0 : Tok) (k : Nat) (c0 : Str) (cs : List Str) (rest : List (Addr × Obj)) (nn : Nat) (s' : Shared) : Prop :=
  ∃ i h' tk its' n' cv tt, s' = { s with heap := h', toks := tk } ∧ nn = cs.length + 1 - i ∧ i ≤ cs.length ∧ its'.size = k + 1 + i ∧ (tokOf c0 cs i).length ≤ 10 + 10 * i ∧
    Fr g L h' (fun z => if z = Str.ofString "ch" then cv else if z = Str.ofString "token" then some (.str (tokOf c0 cs i) tt) else m9 z) ∧ News g L h' ((I, ciObj q t0) :: (q, methodObj (.ref 73) (.ref line)) :: (gn, listOf its' n') :: rest)
theorem InnerI.start {g : Heap} {L I q gn line : Addr} {m9 : Str → Option Value} {t0 tt : Tok} {k tk n' : Nat} {c0 : Str} {cs : List Str} {rest : List (Addr × Obj)} {h' : Heap} {its' : Array Value} (F : Fr g L h' m9) (N : News g L h' ((I, ciObj q t0) :: (q, methodObj (.ref 73) (.ref line)) :: (gn, listOf its' n') :: rest))
    (hm : m9 (Str.ofString "token") = some (.str (Str.ofString "" ++ c0) tt)) (hs : its'.size = k + 1) (hl : c0.length ≤ 10) : InnerI g L s m9 I q gn line t0 k c0 cs rest (cs.length + 1) { s with heap := h', toks := tk } := by
  refine ⟨0, h', tk, its', n', m9 (Str.ofString "ch"), tt, rfl, rfl, Nat.zero_le _, hs, ?_, ?_, N⟩
  · show (Str.ofString "" ++ c0).length ≤ 10 + 10 * 0
    rw [Str.length_append]
    show 0 + c0.length ≤ _
    omega
  · have : m9 = fun z => if z = Str.ofString "ch" then m9 (Str.ofString "ch") else if z = Str.ofString "token" then some (.str (Str.ofString "" ++ c0) tt) else m9 z := by
      rw [← hm]; exact two_back _
    exact this ▸ F
theorem get_read_spec {rest fx : List (Addr × Obj)} {line d l gn st d2 f : Addr} {es es2 : List DictEntry} {te : Tok} {fo : Obj} {its : Array Value} {n k k0 : Nat} {c0 : Str} {cs : List Str} (H : Lex w rest line d l gn st d2 f es es2 te fo fx) (hr : ∀ p ∈ rest, p.1 ≠ gn) (hits : its.size = k) (ml : (l, listOf [].toArray k0) ∈ rest)
    (p0 : (k, c0) ∈ pieces) (o0 : OkC c0) (p1 : ∀ i c, cs[i]? = some c → (k + 1 + i, c) ∈ pieces ∧ OkC c) (p2 : (k + 1 + cs.length, Str.ofString " ") ∈ pieces) (hcs : cs.length ≤ 20)
    {kk : Nat} (hkk : 16 ≤ kk) (C : Cx kk w A A₀ base h₀ env outer L mg mb loose mean) (F : Fr h₀ L s.heap m) (N : News h₀ L s.heap ((gn, listOf its n) :: rest))
    (h : ∀ h' tk its' n' t', its'.size = k + 1 + cs.length + 1 → Fr h₀ L h' m → News h₀ L h' ((gn, listOf its' n') :: rest) → R (.ok (.ret (.str (cs.foldl (· ++ ·) (Str.ofString "" ++ c0)) t'))) { s with heap := h', toks := tk }) :
    codeAny (model PR w) A (.call (.ref 80) ⟨[.ref line], []⟩) R s := by
  have H' := H
  obtain ⟨m1, m2, g1, g2, g3, g4, g5, g6, m3, m4, g7, mf, ff, fxs, pc⟩ := H
  obtain ⟨B, X, T, hA, hf, hke, hdep, hun, hh⟩ := C
  obtain ⟨o1, o2, o3, o4, o5, o6, o7⟩ := o0
  clear pc
  refine' code_def (binds := [(Str.ofString "self", .ref line)]) B F X N T hA hf hke ?k6 ?k7 ?k8 ?k9 ?kB ?_ ?c2 ?c3 ?c4 ?c5
  case k6 => k_is
  case k7 => k_is
  case k8 => (first | omega | (have := hdep; omega))
  case k9 => exact BindsTo.of_eq rfl
  case c5 => decide
  case kB => exact locs rfl
  case c2 => exact rfl
  case c3 => exact rfl
  case c4 => exact rfl
  intro g' L' h' FG' F' N' B' X' T'
  (try dsimp only)
  (try k_fold)
  k_steps
  (with_reducible rename Fr _ _ _ _ => F1); (with_reducible rename News _ _ _ _ => N1)
  refine ⟨fun n s' => n = 1 ∧ s' = _, 1, ⟨rfl, rfl⟩, ?_⟩
  rintro _ _ ⟨rfl, rfl⟩
  (with_reducible rename ∀ p ∈ (_, methodObj _ _) :: _, p.1 < _ => l9)
  (with_reducible rename ∀ p ∈ (gn, _) :: rest, p.1 < _ => l8)
  have hIq : _ ≠ gn ∧ _ ≠ gn := ⟨Nat.ne_of_gt (l9 _ (.tail _ (.head _))), Nat.ne_of_gt (l8 _ (.head _))⟩
  refine next_read H' hr hIq hits p0 o4 o5 (kk := kk - 1) (by omega) (by walk_at "m_cx") F1 N1 fun h9 tk9 its9 n9 t9 hs9 F9 N9 => ?_
  refine ⟨_, rfl, ?_⟩
  clear F1 N1
  k_steps
  (with_reducible rename Fr _ _ _ _ => F1); (with_reducible rename News _ _ _ _ => N1)
  refine ⟨InnerI g' L' s _ _ _ gn line _ k c0 cs rest, _, InnerI.start F1 N1 rfl (by rw [hs9, o6]) o7, ?_⟩
  clear F1 N1
  rintro nn s' ⟨i, h1, tk1, its1, n1, cv, tt, rfl, rfl, hi, hs1, hl1, F1, N1⟩
  have hl2 : (tokOf c0 cs i).length ≤ 1000 := by omega
  by_cases hlt : i < cs.length
  · obtain ⟨c, hc⟩ : ∃ c, cs[i]? = some c := ⟨cs[i], by simp [hlt]⟩
    obtain ⟨pc1, ⟨b1, b2, b3, b4, b5, b6, b7⟩⟩ := p1 i c hc
    refine next_read H' hr hIq hs1 pc1 b4 b5 (kk := kk - 1) (by omega) (by walk_at "m_cx") F1 N1 fun h2 tk2 its2 n2 t2 hs2 F2 N2 => ?_
    refine ⟨_, rfl, ?_⟩
    clear F1 N1
    k_steps
    (with_reducible rename Fr _ _ _ _ => F3); (with_reducible rename News _ _ _ _ => N3)
    rw [map_next (by decide +kernel)] at F3
    have e1 := tokOf_succ (c0 := c0) hc
    rw [← e1] at F3
    refine ⟨cs.length + 1 - (i + 1), by omega, i + 1, _, _, _, _, _, _, rfl, rfl, hlt, by rw [hs2, b6]; omega, ?_, F3, N3⟩
    rw [e1, Str.length_append]
    omega
  · have hie : i = cs.length := by omega
    subst hie
    refine next_read H' hr hIq hs1 p2 (by decide +kernel) (by decide +kernel) (kk := kk - 1) (by omega) (by walk_at "m_cx") F1 N1 fun h2 tk2 its2 n2 t2 hs2 F2 N2 => ?_
    refine ⟨_, rfl, ?_⟩
    clear F1 N1
    have hw : has (Str.ofString "\n\t\r ") (Str.ofString " ") = true := by decide +kernel
    k_steps
    dsimp only [RTurn]
    k_steps
    (with_reducible rename Fr _ _ _ _ => F3); (with_reducible rename News _ _ _ _ => N3)
    rw [show tokOf c0 cs cs.length = cs.foldl (· ++ ·) (Str.ofString "" ++ c0) from by unfold tokOf; rw [List.take_length]]
    exact h _ _ _ _ _ (by rw [hs2]; rfl) F3 (news_tl (news_tl N3))
end

end Mine

theorem Mine.rs_gr3 : True ∧ True := by
  w_top off
  try (walk1; fail)
  exact ⟨True.intro, True.intro⟩

namespace Mine
-- needs: pre tok loop new re ext esc lex rd ci gr
section
variable {w : World} {A A₀ : Around} {s : Shared} {base h₀ : Heap} {env : Env} {outer : List Env} {L : Addr} {m mg mb : Str → Option Value} {news : List (Addr × Obj)} {loose : List Str} {mean : ExcName → Option Value} {R : Result → Shared → Prop}
theorem get_readU {restL fx : List (Addr × Obj)} {g : Obj → List (Addr × Obj)} {line d l gn st d2 f : Addr} {es es2 : List DictEntry} {te : Tok} {fo : Obj} {its : Array Value} {n k k0 : Nat} {c0 : Str} {cs : List Str} (UF : UpdF gn (listOf its n) news g) (H : Lex w restL line d l gn st d2 f es es2 te fo fx) (hr : ∀ p ∈ restL, p.1 ≠ gn) (hsub : ∀ p ∈ restL, p ∈ news) (hits : its.size = k) (ml : (l, listOf [].toArray k0) ∈ restL)
    (p0 : (k, c0) ∈ pieces) (o0 : OkC c0) (p1 : ∀ i c, cs[i]? = some c → (k + 1 + i, c) ∈ pieces ∧ OkC c) (p2 : (k + 1 + cs.length, Str.ofString " ") ∈ pieces) (hcs : cs.length ≤ 20)
    {kk : Nat} (hkk : 16 ≤ kk) (C : Cx kk w A A₀ base h₀ env outer L mg mb loose mean) (F : Fr h₀ L s.heap m) (N : News h₀ L s.heap news)
    (h : ∀ h' tk its' n' t', its'.size = k + 1 + cs.length + 1 → Fr h₀ L h' m → News h₀ L h' (g (listOf its' n')) → R (.ok (.ret (.str (cs.foldl (· ++ ·) (Str.ofString "" ++ c0)) t'))) { s with heap := h', toks := tk }) :
    codeAny (model PR w) A (.call (.ref 80) ⟨[.ref line], []⟩) R s := by
  obtain ⟨pre, post, rfl, hg, h1, h2⟩ := UF.split
  have mem : ∀ p ∈ restL, p ∈ pre ++ post := fun p hp => by
    rcases List.mem_append.mp (hsub p hp) with q | q
    · exact List.mem_append_left _ q
    · rcases List.mem_cons.mp q with q | q
      · exact absurd (by rw [q]) (hr p hp)
      · exact List.mem_append_right _ q
  have N1 : News h₀ L s.heap ((gn, listOf its n) :: (pre ++ post)) := fun p hp => N p (by
    rcases List.mem_cons.mp hp with q | q
    · exact List.mem_append_right _ (q ▸ .head _)
    · rcases List.mem_append.mp q with q | q
      · exact List.mem_append_left _ q
      · exact List.mem_append_right _ (.tail _ q))
  refine get_read_spec (H.mono mem) (fun p hp => ?_) hits (mem _ ml) p0 o0 p1 p2 hcs hkk C F N1 fun h' tk its' n' t' hs F' N' => h h' tk its' n' t' hs F' ?_
  · rcases List.mem_append.mp hp with q | q
    · exact h1 p q
    · exact h2 p q
  · rw [hg]
    intro p hp
    rcases List.mem_append.mp hp with q | q
    · exact N' p (.tail _ (List.mem_append_left _ q))
    · rcases List.mem_cons.mp q with q | q
      · exact N' p (q ▸ .head _)
      · exact N' p (.tail _ (List.mem_append_right _ q))
noncomputable def okB (y : Str) : Bool := !(has (Str.ofString "\n\t\r ") y) && !(y == Str.ofString "\"") && !(y == Str.ofString "\\") && !(y == Str.ofString "\n") && !(Str.ofString "" == y) && Nat.beq y.cps.size 1 && Nat.ble y.length 10
theorem okC_of {y : Str} (h : okB y = true) : OkC y := by
  simp only [okB, Bool.and_eq_true, Bool.not_eq_true'] at h
  obtain ⟨⟨⟨⟨⟨⟨a, b⟩, c⟩, d⟩, e⟩, f⟩, g⟩ := h
  exact ⟨a, b, c, d, e, Nat.eq_of_beq_eq_true f, Nat.le_of_ble_eq_true g⟩
theorem get_read0 {restL fx : List (Addr × Obj)} {g : Obj → List (Addr × Obj)} {line d l gn st d2 f : Addr} {es es2 : List DictEntry} {te : Tok} {fo : Obj} {its : Array Value} {n k0 : Nat} (UF : UpdF gn (listOf its n) news g) (H : Lex w restL line d l gn st d2 f es es2 te fo fx) (hr : ∀ p ∈ restL, p.1 ≠ gn) (hsub : ∀ p ∈ restL, p ∈ news) (hits : its.size = 0) (ml : (l, listOf [].toArray k0) ∈ restL)
    {kk : Nat} (hkk : 16 ≤ kk) (C : Cx kk w A A₀ base h₀ env outer L mg mb loose mean) (F : Fr h₀ L s.heap m) (N : News h₀ L s.heap news)
    (h : ∀ h' tk its' n' t', its'.size = 2 → Fr h₀ L h' m → News h₀ L h' (g (listOf its' n')) → R (.ok (.ret (.str (Str.ofString "&") t'))) { s with heap := h', toks := tk }) :
    codeAny (model PR w) A (.call (.ref 80) ⟨[.ref line], []⟩) R s :=
  get_readU (c0 := Str.ofString "&") (cs := []) UF H hr hsub hits ml (by decide +kernel) (okC_of (by decide +kernel)) (fun i c hc => by cases hc) (by decide +kernel) (by decide) hkk C F N fun h' tk its' n' t' hs F' N' => h h' tk its' n' t' hs F' N'
theorem get_read7 {restL fx : List (Addr × Obj)} {g : Obj → List (Addr × Obj)} {line d l gn st d2 f : Addr} {es es2 : List DictEntry} {te : Tok} {fo : Obj} {its : Array Value} {n k0 : Nat} (UF : UpdF gn (listOf its n) news g) (H : Lex w restL line d l gn st d2 f es es2 te fo fx) (hr : ∀ p ∈ restL, p.1 ≠ gn) (hsub : ∀ p ∈ restL, p ∈ news) (hits : its.size = 7) (ml : (l, listOf [].toArray k0) ∈ restL)
    {kk : Nat} (hkk : 16 ≤ kk) (C : Cx kk w A A₀ base h₀ env outer L mg mb loose mean) (F : Fr h₀ L s.heap m) (N : News h₀ L s.heap news)
    (h : ∀ h' tk its' n' t', its'.size = 9 → Fr h₀ L h' m → News h₀ L h' (g (listOf its' n')) → R (.ok (.ret (.str (Str.ofString "0") t'))) { s with heap := h', toks := tk }) :
    codeAny (model PR w) A (.call (.ref 80) ⟨[.ref line], []⟩) R s :=
  get_readU (c0 := Str.ofString "0") (cs := []) UF H hr hsub hits ml (by decide +kernel) (okC_of (by decide +kernel)) (fun i c hc => by cases hc) (by decide +kernel) (by decide) hkk C F N fun h' tk its' n' t' hs F' N' => h h' tk its' n' t' hs F' N'
theorem amp_cs : ∀ (i : Nat) (c : Str), [Str.ofString "m", Str.ofString "p", Str.ofString ";"][i]? = some c → (2 + 1 + i, c) ∈ pieces ∧ okB c = true := by
  intro i c hc
  match i, hc with
  | 0, hc => cases hc; exact ⟨by decide +kernel, by decide +kernel⟩
  | 1, hc => cases hc; exact ⟨by decide +kernel, by decide +kernel⟩
  | 2, hc => cases hc; exact ⟨by decide +kernel, by decide +kernel⟩
  | i + 3, hc => simp at hc
theorem get_read2 {restL fx : List (Addr × Obj)} {g : Obj → List (Addr × Obj)} {line d l gn st d2 f : Addr} {es es2 : List DictEntry} {te : Tok} {fo : Obj} {its : Array Value} {n k0 : Nat} (UF : UpdF gn (listOf its n) news g) (H : Lex w restL line d l gn st d2 f es es2 te fo fx) (hr : ∀ p ∈ restL, p.1 ≠ gn) (hsub : ∀ p ∈ restL, p ∈ news) (hits : its.size = 2) (ml : (l, listOf [].toArray k0) ∈ restL)
    {kk : Nat} (hkk : 16 ≤ kk) (C : Cx kk w A A₀ base h₀ env outer L mg mb loose mean) (F : Fr h₀ L s.heap m) (N : News h₀ L s.heap news)
    (h : ∀ h' tk its' n' t', its'.size = 7 → Fr h₀ L h' m → News h₀ L h' (g (listOf its' n')) → R (.ok (.ret (.str (Str.ofString "amp;") t'))) { s with heap := h', toks := tk }) :
    codeAny (model PR w) A (.call (.ref 80) ⟨[.ref line], []⟩) R s :=
  get_readU (c0 := Str.ofString "a") (cs := [Str.ofString "m", Str.ofString "p", Str.ofString ";"]) UF H hr hsub hits ml (by decide +kernel) (okC_of (by decide +kernel)) (fun i c hc => ⟨(amp_cs i c hc).1, okC_of (amp_cs i c hc).2⟩) (by decide +kernel) (by decide) hkk C F N fun h' tk its' n' t' hs F' N' => h h' tk its' n' t' hs F' N'
end

end Mine

theorem Mine.rs_grr : True ∧ True := by
  w_top off
  try (walk1; fail)
  exact ⟨True.intro, True.intro⟩

namespace Mine
-- needs: pre tok loop gro new re ext esc lex rd ci gr gr3
theorem mem_ap {α : Type} {r : List α} (x : List α) : ∀ p ∈ r, p ∈ x ++ r := fun p hp => List.mem_append_right _ hp
local macro_rules | `(tactic| k_upd) => `(tactic| (refine Upd.head ?_; assumption))
local macro_rules | `(tactic| walk_at "m_sub") => `(tactic| first | exact fun p hp => hp | (refine fun p hp => List.mem_cons_of_mem _ ?_; revert p; walk_at "m_sub"))
local macro_rules | `(tactic| walk_at "call ref") => `(tactic| (k_here; (with_reducible show wpAny _ _ (call (Value.ref 80) _ _) _ _ _); (with_reducible rename Lex _ _ _ _ _ _ _ _ _ _ _ _ _ _ => lexH); k_dflt (refine wpAny_call ?_; (first | refine' get_read0 ?UF lexH ?r ?sb ?hs ?ml ?k ?C ?F ?N ?_; (case F => k_asm); (case N => k_asm); (case UF => k_updF); (case hs => with_reducible assumption) | refine' get_read2 ?UF lexH ?r ?sb ?hs ?ml ?k ?C ?F ?N ?_; (case F => k_asm); (case N => k_asm); (case UF => k_updF); (case hs => with_reducible assumption) | refine' get_read7 ?UF lexH ?r ?sb ?hs ?ml ?k ?C ?F ?N ?_; (case F => k_asm); (case N => k_asm); (case UF => k_updF); (case hs => with_reducible assumption)); (case C => walk_at "m_cx"); (case k => omega); (case r => assumption); (case ml => exact List.Mem.head _); (case sb => walk_at "m_sub")); intro h' tk its' n' t' hs' F' N'; (try dsimp only)))
local macro_rules | `(tactic| walk_at "call ref") => `(tactic| (k_here; (with_reducible show wpAny _ _ (call (Value.ref 87) _ _) _ _ _); k_dflt (refine wpAny_call ?_; refine' push_spec ?k ?C ?F ?N ?a ?b ?g ?U ?z ?_; (case C => walk_at "m_cx"); (case k => omega); (case F => k_asm); (case N => k_asm); (case a => k_mem); (case b => k_mem); (case g => assumption); (case U => k_upd); (case z => walk_at "m_size")); intro h' tk F' N'; (try dsimp only)))
theorem swap56 {h₀ h : Heap} {L : Addr} {a b c d e f : Addr × Obj} {r : List (Addr × Obj)} (N : News h₀ L h (a :: b :: c :: d :: e :: f :: r)) : News h₀ L h (a :: b :: c :: d :: f :: e :: r) := fun p hp => N p (by
  simp only [List.mem_cons] at hp ⊢
  rcases hp with h | h | h | h | h | h | h <;> simp [h])
section
variable {w : World} {A A₀ : Around} {s : Shared} {base h₀ : Heap} {env : Env} {outer : List Env} {L : Addr} {m mg mb : Str → Option Value} {news news' : List (Addr × Obj)} {loose : List Str} {mean : ExcName → Option Value} {R : Result → Shared → Prop}
theorem grownR0_spec {rest fx : List (Addr × Obj)} {line d l gn st d2 f : Addr} {es es2 : List DictEntry} {te tk0 : Tok} {fo : Obj} {its : Array Value} {n k : Nat} (H : Lex w ((l, listOf [].toArray k) :: rest) line d l gn st d2 f es es2 te fo fx) (hits : its.size = 0) (hr : ∀ p ∈ rest, p.1 ≠ l ∧ p.1 ≠ gn) (hlg : l ≠ gn) (m1 : (line, instObj 90 d) ∈ rest) (m2 : (d, dictOf es 4) ∈ rest)
    {kk : Nat} (hkk : 20 ≤ kk) (C : Cx kk w A A₀ base h₀ env outer L mg mb loose mean) (F : Fr h₀ L s.heap m) (N : News h₀ L s.heap ((gn, listOf its n) :: (l, listOf [].toArray k) :: rest))
    (h : ∀ h' tk k' its' n' (t1 t2 t3 t4 t5 t6 : Tok), Fr h₀ L h' m → News h₀ L h' ((l, listOf [Value.str (Str.ofString "amp;&") t1, Value.str (Str.ofString "amp;") t2, Value.str (Str.ofString "0") t3, Value.str (Str.ofString "&amp;") t4, Value.str (Str.ofString "amp;") t5, Value.str (Str.ofString (toString (1 : Int))) t6].toArray k') :: (gn, listOf its' n') :: rest) → R (.ok (.ret .none)) { s with heap := h', toks := tk }) :
    codeAny (model PR w) A (.call (.ref 278) ⟨[.ref line, .int 0 tk0], []⟩) R s := by
  obtain ⟨B, X, T, hA, hf, hke, hdep, hun, hh⟩ := C
  have hg := H.g1
  have hg2 := H.g2
  have hg3 := H.g3
  refine' code_defC (binds := [(Str.ofString "line", .ref line), (Str.ofString "kind", .int 0 tk0)]) B F X N T hA hf hke ?k6 ?k7 ?k8 ?k9 ?kB ?kD ?_ ?c2 ?c3 ?c4
  case k6 => k_is
  case k7 => k_is
  case k8 => (first | omega | (have := hdep; omega))
  case k9 => exact BindsTo.of_eq rfl
  case kB => exact rfl
  case kD => decide +kernel
  case c2 => exact rfl
  case c3 => exact rfl
  case c4 => exact rfl
  intro g' L' h' tk' cells' FG' F' N' Y' B' X' T' l1
  (try k_lt l1)
  k_cells Y'
  (try simp only [List.cons_append, List.nil_append] at N')
  (try dsimp only)
  (try k_fold)
  have hr1 : ∀ p ∈ rest, p.1 ≠ l := fun p hp => (hr p hp).1
  have hr2 : ∀ p ∈ rest, p.1 ≠ gn := fun p hp => (hr p hp).2
  have hr3 : ∀ p ∈ (l, listOf [].toArray k) :: rest, p.1 ≠ gn := fun p hp => by
    rcases List.mem_cons.mp hp with rfl | hp
    · exact hlg
    · exact hr2 p hp
  k_steps
  (with_reducible rename Fr _ _ _ _ => F1); (with_reducible rename News _ _ _ _ => N0)
  have N1 := swap56 N0
  clear N0
  refine grow_loop hh F1 N1 (by refine ⟨?_, ?_, ?_, ?_⟩ <;> k_ne) ?_ ?_ ?_
  · intro p hp
    rcases List.mem_cons.mp hp with rfl | hp
    · exact hlg.symm
    · exact hr1 p hp
  · intro v wu h9 tk9 i k9 r hi hrr hx hsub F9 N9
    replace hi : _ ≤ 0 + 6 := hi
    have m1' := hsub _ (.tail _ m1)
    have m2' := hsub _ (.tail _ m2)
    clear F1 N1
    k_steps
    (with_reducible rename Fr _ _ _ _ => F8); (with_reducible rename News _ _ _ _ => N8)
    exact GPost.mk F8 N8
  · intro h9 tk9 wu k9 F9 N9
    clear F1 N1
    k_steps
    (with_reducible rename Fr _ _ _ _ => F8); (with_reducible rename News _ _ _ _ => N8)
    exact h _ _ _ _ _ _ _ _ _ _ _ F8 N8
theorem grownR1_spec {rest fx : List (Addr × Obj)} {line d l gn st d2 f : Addr} {es es2 : List DictEntry} {te tk0 : Tok} {fo : Obj} {its : Array Value} {n k : Nat} (H : Lex w ((l, listOf [].toArray k) :: rest) line d l gn st d2 f es es2 te fo fx) (hits : its.size = 0) (hr : ∀ p ∈ rest, p.1 ≠ l ∧ p.1 ≠ gn) (hlg : l ≠ gn) (m1 : (line, instObj 90 d) ∈ rest) (m2 : (d, dictOf es 4) ∈ rest)
    {kk : Nat} (hkk : 20 ≤ kk) (C : Cx kk w A A₀ base h₀ env outer L mg mb loose mean) (F : Fr h₀ L s.heap m) (N : News h₀ L s.heap ((gn, listOf its n) :: (l, listOf [].toArray k) :: rest))
    (h : ∀ h' tk k' its' n' (t1 t2 t3 t4 t5 t6 : Tok), Fr h₀ L h' m → News h₀ L h' ((l, listOf [Value.str (Str.ofString "&") t1, Value.str (Str.ofString "&amp;") t2, Value.str (Str.ofString "0") t3, Value.str (Str.ofString "&") t4, Value.str (Str.ofString "amp;&") t5, Value.str (Str.ofString (toString (1 : Int))) t6].toArray k') :: (gn, listOf its' n') :: rest) → R (.ok (.ret .none)) { s with heap := h', toks := tk }) :
    codeAny (model PR w) A (.call (.ref 278) ⟨[.ref line, .int 1 tk0], []⟩) R s := by
  obtain ⟨B, X, T, hA, hf, hke, hdep, hun, hh⟩ := C
  have hg := H.g1
  have hg2 := H.g2
  have hg3 := H.g3
  refine' code_defC (binds := [(Str.ofString "line", .ref line), (Str.ofString "kind", .int 1 tk0)]) B F X N T hA hf hke ?k6 ?k7 ?k8 ?k9 ?kB ?kD ?_ ?c2 ?c3 ?c4
  case k6 => k_is
  case k7 => k_is
  case k8 => (first | omega | (have := hdep; omega))
  case k9 => exact BindsTo.of_eq rfl
  case kB => exact rfl
  case kD => decide +kernel
  case c2 => exact rfl
  case c3 => exact rfl
  case c4 => exact rfl
  intro g' L' h' tk' cells' FG' F' N' Y' B' X' T' l1
  (try k_lt l1)
  k_cells Y'
  (try simp only [List.cons_append, List.nil_append] at N')
  (try dsimp only)
  (try k_fold)
  have hr1 : ∀ p ∈ rest, p.1 ≠ l := fun p hp => (hr p hp).1
  have hr2 : ∀ p ∈ rest, p.1 ≠ gn := fun p hp => (hr p hp).2
  have hr3 : ∀ p ∈ (l, listOf [].toArray k) :: rest, p.1 ≠ gn := fun p hp => by
    rcases List.mem_cons.mp hp with rfl | hp
    · exact hlg
    · exact hr2 p hp
  k_steps
  (with_reducible rename Fr _ _ _ _ => F1); (with_reducible rename News _ _ _ _ => N0)
  have N1 := swap56 N0
  clear N0
  refine grow_loop hh F1 N1 (by refine ⟨?_, ?_, ?_, ?_⟩ <;> k_ne) ?_ ?_ ?_
  · intro p hp
    rcases List.mem_cons.mp hp with rfl | hp
    · exact hlg.symm
    · exact hr1 p hp
  · intro v wu h9 tk9 i k9 r hi hrr hx hsub F9 N9
    replace hi : _ ≤ 0 + 6 := hi
    have m1' := hsub _ (.tail _ m1)
    have m2' := hsub _ (.tail _ m2)
    clear F1 N1
    k_steps
    (with_reducible rename Fr _ _ _ _ => F8); (with_reducible rename News _ _ _ _ => N8)
    exact GPost.mk F8 N8
  · intro h9 tk9 wu k9 F9 N9
    clear F1 N1
    k_steps
    (with_reducible rename Fr _ _ _ _ => F8); (with_reducible rename News _ _ _ _ => N8)
    exact h _ _ _ _ _ _ _ _ _ _ _ F8 N8
end

end Mine

theorem Mine.rs_hnew : True ∧ True := by
  w_top off
  try (walk1; fail)
  exact ⟨True.intro, True.intro⟩

namespace Mine
-- needs: pre tok loop
noncomputable abbrev hdrD (P : Params) (l : Addr) (a : Tok) : List DictEntry :=
  [{ hash := PyData.keyHash P (Str.ofString "_headers"), key := .str (Str.ofString "_headers") a, val := .ref l }]
section
variable {w : World} {A A₀ : Around} {s : Shared} {base h₀ : Heap} {env : Env} {outer : List Env} {L : Addr} {m mg mb : Str → Option Value} {news news' : List (Addr × Obj)} {loose : List Str} {mean : ExcName → Option Value} {R : Result → Shared → Prop}
theorem hnew_spec {hl : Addr} {n : Nat} {Q : Value → Shared → Prop} {E : Value → Shared → Prop} (ml : (hl, listOf [].toArray n) ∈ news)
    {kk : Nat} (hkk : 6 ≤ kk) (C : Cx kk w A A₀ base h₀ env outer L mg mb loose mean) (F : Fr h₀ L s.heap m) (N : News h₀ L s.heap news)
    (h : ∀ h' tk x d ta, Fr h₀ L h' m → News h₀ L h' ((x, instObj 227 d) :: (d, dictOf (hdrD w.params hl ta) 1) :: news) → (∀ p ∈ news, p.1 < d) → @LT.lt Nat _ d x → Q (.ref x) { s with heap := h', toks := tk }) :
    wpAny (model PR w) A (call (.ref 227) [.ref hl]) Q E s := by
  obtain ⟨B0, X, T, hA0, hf, hke, hdep0, hun0, hh0⟩ := C
  refine call_cls F X N (by k_is) (by k_is) (by k_is) fun x dx h1 F N l1 l2 => ?_
  (try k_lt2 l2)
  generalize hA1 : A.under (.builtin "type.__call__" ⟨.ref 227 :: [.ref hl], []⟩) = A1
  have hA : A1.frames = some (env :: outer) := by rw [← hA1]; exact hA0
  have hdep : A1.depth + (kk - 1) < recursionLimit := by rw [← hA1]; show A.depth + 1 + (kk - 1) < _; omega
  have hun : A1.units + 4 * (kk - 1) < cLine := by rw [← hA1]; show A.units + 1 + 4 * (kk - 1) < _; omega
  have hh : A1.handled = none := by rw [← hA1]; exact hh0
  have B := B0
  have hne : ∀ p ∈ news, p.1 ≠ dx := fun p hp => Nat.ne_of_lt (l1 p hp)
  refine' code_def (binds := [(Str.ofString "self", .ref x), (Str.ofString "headers", .ref hl)]) B F X N T hA hf hke ?k6 ?k7 ?k8 ?k9 ?kB ?_ ?c2 ?c3 ?c4 ?c5
  case k6 => k_is
  case k7 => k_is
  case k8 => (first | omega | (have := hdep; omega))
  case k9 => exact binds_K (by k_in) rfl (by k_is) rfl rfl rfl
  case c5 => decide
  case kB => exact locs rfl
  case c2 => exact rfl
  case c3 => exact rfl
  case c4 => exact rfl
  intro g' L' h' FG' F' N' B' X' T'
  (try dsimp only)
  (try k_fold)
  k_steps
  (with_reducible rename Fr _ _ _ _ => F1); (with_reducible rename News _ _ _ _ => N1)
  refine loop_list (its := #[]) (fun m0 news0 i m₁ news₁ => m₁ = m0 ∧ news₁ = news0) hh F1 N1 (.tail _ (.tail _ ml)) (.inr ⟨_, _, _, rfl, fun i v hv => by simp at hv⟩) ⟨rfl, rfl⟩ ?_ ?_
  · intro i v m₁ news₁ h₁ tk₁ own I hv
    simp at hv
  · rintro h₁ tk₁ m₁ news₁ htk F₁ N₁ ⟨rfl, rfl⟩
    clear F1 N1
    change Fr g' L' h₁ _ at F₁
    change News g' L' h₁ _ at N₁
    dsimp only
    k_steps
    (with_reducible rename Fr _ _ _ _ => F8); (with_reducible rename News _ _ _ _ => N8)
    refine h _ _ _ _ _ F8 N8 l1 ?_
    omega
end

end Mine

theorem Mine.rs_keys : True ∧ True := by
  w_top off
  try (walk1; fail)
  exact ⟨True.intro, True.intro⟩

namespace Mine
-- needs: pre re loop hdr
section
open PyProof.Rows.LCg PyProof.Rows.LCp
variable {prog : Program} {w : World} {A : Around} {s : Shared} {h₀ : Heap} {L : Addr} {m : Str → Option Value} {env : Env} {news : List (Addr × Obj)}
noncomputable abbrev hkey (p : HP) : Value := .str p.k p.kt
theorem rest_pairs {x x₂ : Str} {pos : Pos} {scope : Scope} {cl : List (Str × Addr)} {S : List (Addr × Obj) → Prop} {Fin : List Value → List (Addr × Obj) → Prop} {ps : List HP} (hm : ∀ p ∈ ps, (p.a, tupO [.str p.k p.kt, .str p.v p.vt]) ∈ news) (hS : S news) (hfin : Fin (ps.map hkey) news)
    (hk : ∀ C, (compEnvC scope cl C env).scope.kind = .function) (hl : ∀ C, (compEnvC scope cl C env).kindOf x = some .local) (hd : (x == ("__debug__" : Str)) = false) :
    ∀ n i ys, n + i = ps.length → ys = (ps.take i).map hkey → CompRestP prog w A h₀ L m env (.Name x pos) x x₂ scope cl s S (fun i v => (ps.map fun p => Value.ref p.a).toArray[i]? = some v) Fin n i ys news := by
  intro n
  induction n with
  | zero =>
    intro i ys hi hy
    refine CompRestP.zero ?_
    rw [hy, List.take_of_length_le (by omega)]
    exact hfin
  | succ n ih =>
    intro i ys hi hy
    refine CompRestP.succ fun v hv => ?_
    have hlt : i < ps.length := by omega
    have hp : ps[i]? = some ps[i] := by simp [hlt]
    have hv' : v = .ref ps[i].a := by
      simp only [List.getElem?_toArray, List.getElem?_map, hp, Option.map_some] at hv
      exact (Option.some.inj hv).symm
    refine ⟨ps[i].a, _, .str ps[i].k ps[i].kt, .str ps[i].v ps[i].vt, _, hv', hm _ (List.getElem_mem hlt), rfl, rfl, ?_⟩
    intro I oI C oC D m₂ h tk E' hC h1 h2 F N off ne
    refine LCgL.ld_own N (.tail _ (.head _)) hC h1 ?_ (hk C) (hl C) hd
    refine ⟨h, tk, news, rfl, F, N, off, hS, ih (i + 1) _ (by omega) ?_⟩
    rw [hy, List.take_add_one, hp, List.map_append]
    rfl
end
local macro_rules | `(tactic| k_mem) => `(tactic| first | with_reducible assumption | (refine List.mem_cons_of_mem _ ?_; with_reducible assumption))
section
variable {w : World} {A A₀ : Around} {s : Shared} {base h₀ : Heap} {env : Env} {outer : List Env} {L : Addr} {m mg mb : Str → Option Value} {news news' : List (Addr × Obj)} {loose : List Str} {mean : ExcName → Option Value} {R : Result → Shared → Prop}
theorem keys_spec {hd d hl : Addr} {ps : List HP} {n ne : Nat} {es : List DictEntry} (hpl : ps.length ≤ 1000)
    {kk : Nat} (hkk : 8 ≤ kk) (C : Cx kk w A A₀ base h₀ env outer L mg mb loose mean) (F : Fr h₀ L s.heap m) (N : News h₀ L s.heap news) (H : HdrAt news hd d hl ps n es ne)
    (h : ∀ h' tk D, Fr h₀ L h' m → News h₀ L h' ((D, listOf (ps.map hkey).toArray (ps.map hkey).length) :: news) → R (.ok (.ret (.ref D))) { s with heap := h', toks := tk }) :
    codeAny (model PR w) A (.call (.ref 179) ⟨[.ref hd], []⟩) R s := by
  obtain ⟨B, X, T, hA, hf, hke, hdep, hun, hh⟩ := C
  obtain ⟨m1, m2, g1, m3, m4, g2, g3, g4, g5⟩ := H
  refine' code_def (binds := [(Str.ofString "self", .ref hd)]) B F X N T hA hf hke ?k6 ?k7 ?k8 ?k9 ?kB ?_ ?c2 ?c3 ?c4 ?c5
  case k6 => k_is
  case k7 => k_is
  case k8 => (first | omega | (have := hdep; omega))
  case k9 => exact BindsTo.of_eq rfl
  case c5 => decide
  case kB => exact locs rfl
  case c2 => exact rfl
  case c3 => exact rfl
  case c4 => exact rfl
  intro g' L' h' FG' F' N' B' X' T'
  (try dsimp only)
  (try k_fold)
  iterate 3 walk1
  refine PyProof.Rows.LCp.ListComp_P (F₀ := by k_asm) (by with_unfolding_all rfl) (by decide) (by rfl) (by decide) (by rfl) (by rfl) (by decide) ?_
  iterate 3 walk1
  (with_reducible rename Fr _ _ _ _ => F1); (with_reducible rename News _ _ _ _ => N1)
  refine PyProof.Rows.LCp.SrcLP.ledger hh F1 N1 m3 (by rw [sizeLine_eq, List.size_toArray, List.length_map]; omega) fun g => ?_
  rw [List.size_toArray, List.length_map]
  refine rest_pairs m4 (.inr ⟨_, m3, rfl, _, rfl⟩) ?_ (fun _ => rfl) (fun _ => rfl) (by decide) ps.length 0 [] rfl rfl
  intro D h9 tk9 F9 N9 o9
  clear F1 N1
  k_steps
  (with_reducible rename Fr _ _ _ _ => F8); (with_reducible rename News _ _ _ _ => N8)
  exact h _ _ _ F8 N8
end

end Mine

theorem Mine.rs_rawt : True ∧ True := by
  w_top off
  try (walk1; fail)
  exact ⟨True.intro, True.intro⟩

namespace Mine
-- needs: pre tok loop new re ext esc lex rd ci gr
section
variable {prog : Program} {w : World} {A : Around} {s : Shared} {env : Env} {h₀ : Heap}
/-- A loop over any iterator and any target: what has to be shown of each turn. -/
noncomputable def RawT (prog : Program) (w : World) (A : Around) (env : Env) (target : Expr) (body : List Stmt) (Q : Flow → Shared → Prop) (it : Value) (s : Shared) : Prop :=
  ∃ (I : Nat → Shared → Prop) (n : Nat), I n s ∧ ∀ n s', I n s' → wpAny (model prog w) A (pyNext it) (fun r s₁ => match r with
    | none => Q .next s₁
    | some v => wpAny (model prog w) A (letOwnedTupleGo target it v) (fun _ s₁' => wpAny (model prog w) A (assign target env v) (fun _ s₂ => wpAny (model prog w) A (execs body env) (RTurn I n Q) (fun _ _ => False) s₂) (fun _ _ => False) s₁') (fun _ _ => False) s₁) (fun _ _ => False) s'
theorem raw_walkT {target : Expr} {body : List Stmt} {it : Value} {R : Result → Shared → Prop} (h : RawT prog w A env target body (fun f s' => R (.ok f) s') it s) : codeAny (model prog w) A (.forLoop target it body [] env) R s := by
  obtain ⟨I, n, h0, turn⟩ := h
  refine codeAny_forLoop_any I (fun n s' hI => ?_) n h0
  refine noErr (wpAny_mono (turn n s' hI) (fun r s₁ h₁ => ?_) fun _ _ e => e)
  cases r with
  | none => exact wpAny_execs_nil h₁
  | some v =>
    refine noErr (wpAny_mono h₁ (fun _ s₁' h₁' => noErr (wpAny_mono h₁' (fun _ s₂ h₂ => noErr (wpAny_mono h₂ (fun f s₃ h₃ => ?_) fun _ _ e => e)) fun _ _ e => e)) fun _ _ e => e)
    cases f <;> exact h₃
theorem For_rawT {E : Value → Shared → Prop} {Q : Flow → Shared → Prop} {target iter : Expr} {pos : Pos} {body : List Stmt} {L : Addr} {m : Str → Option Value} (_F : Fr h₀ L s.heap m)
    (h : wpAny (model prog w) A (eval iter env) (fun xv s₁ => wpAny (model prog w) A (pyIter xv) (fun it s₂ => RawT prog w A env target body Q it s₂) (fun _ _ => False) s₁) (fun _ _ => False) s)
    (hs : ∀ x, foldedSetIterable iter env x = pure x) : wpAny (model prog w) A (exec (.For target iter body [] pos) env) Q E s :=
  noErr (wpAny_For (wpAny_mono h (fun xv s₁ h₁ => wpAny_mono h₁ (fun it s₂ h₂ => raw_walkT (R := fun r s' => match r with | .ok f => Q f s' | .error e => cameBackBy (model prog w) A env (fun _ _ => False) e s') h₂) fun _ _ e => e) fun _ _ e => e) hs)
end

end Mine

theorem Mine.rs_enu : True ∧ True := by
  w_top off
  try (walk1; fail)
  exact ⟨True.intro, True.intro⟩

namespace Mine
-- needs: pre tok loop
section
variable {prog : Program} {w : World} {A : Around} {s : Shared} {env : Env} {h₀ : Heap}
noncomputable def ForC (prog : Program) (w : World) (A : Around) (env : Env) (target : Expr) (body : List Stmt) (Q : Flow → Shared → Prop) (it : Value) (s : Shared) : Prop :=
  codeAny (model prog w) A (.forLoop target it body [] env) (fun r s' => ∃ f, r = .ok f ∧ Q f s') s
theorem For_rawC {E : Value → Shared → Prop} {Q : Flow → Shared → Prop} {target iter : Expr} {pos : Pos} {body : List Stmt} {L : Addr} {m : Str → Option Value} (_F : Fr h₀ L s.heap m)
    (h : wpAny (model prog w) A (eval iter env) (fun xv s₁ => wpAny (model prog w) A (pyIter xv) (fun it s₂ => ForC prog w A env target body Q it s₂) (fun _ _ => False) s₁) (fun _ _ => False) s)
    (hs : ∀ x, foldedSetIterable iter env x = pure x) : wpAny (model prog w) A (exec (.For target iter body [] pos) env) Q E s :=
  noErr (wpAny_For (wpAny_mono h (fun xv s₁ h₁ => wpAny_mono h₁ (fun it s₂ h₂ => codeAny_mono h₂ fun r s' hr => by obtain ⟨f, rfl, hq⟩ := hr; exact hq) fun _ _ e => e) fun _ _ e => e) hs)
theorem enum_loop {xi xc : Str} {pk pv pt : Pos} {x1 : Nat} {body : List Stmt} {Q : Flow → Shared → Prop} {D : Addr} {its : Array Value} {n : Nat} {m : Str → Option Value} {news : List (Addr × Obj)} (hxi : env.kindOf xi = some .local) (hxc : env.kindOf xc = some .local)
    (hp : (env.scope.kind == .class || (env.scope.kind == .module && env.locals != env.globals)) = false) (hh : A.handled = none) (F : Fr h₀ env.locals s.heap m) (N : News h₀ env.locals s.heap news) (hm : (D, listOf its n) ∈ news)
    (J : Nat → (Str → Option Value) → List (Addr × Obj) → Prop) (h0 : J 0 m news)
    (step : ∀ i v t m₁ news₁ s₁ own, (∃ h tk, s₁ = { s with heap := h, toks := tk }) → its[i]? = some v → J i m₁ news₁ → news₁.map (·.1) = news.map (·.1) → (∀ p ∈ own, p.1 = D ∨ s.heap.objs.size ≤ p.1) →
      Fr h₀ env.locals s₁.heap (fun y => if y = xc then some v else if y = xi then some (.int i t) else m₁ y) → News h₀ env.locals s₁.heap (own ++ news₁) →
      wpAny (model prog w) A (execs body env) (LoopStep3 h₀ env.locals own news₁ (J (i + 1)) s₁ (fun v s' => Q (.ret v) s') fun s' => Q .next s') (fun _ _ => False) s₁)
    (done : ∀ h' tk m' news', Fr h₀ env.locals h' m' → News h₀ env.locals h' news' → news'.map (·.1) = news.map (·.1) → J its.size m' news' → Q .next { s with heap := h', toks := tk }) :
    wpAny (model prog w) A (call (.type "enumerate") [.ref D]) (fun xv s₁ => wpAny (model prog w) A (pyIter xv) (fun it s₂ => ForC prog w A env (.Tuple [.Name xi pk, .Name xc pv] x1 pt) body Q it s₂) (fun _ _ => False) s₁) (fun _ _ => False) s := by
  have hD : D < s.heap.objs.size := Heap.lt_size (N _ hm).1
  have hL : env.locals < s.heap.objs.size := F.ns.lt
  have hDL : D ≠ env.locals := (N _ hm).2.1
  refine call_enumerate_list (N.isList hm) fun h' he hit hsz hk => ?_
  have W := WalksT.enumerate (prog := prog) (w := w) hh (s.heap.objs.size + 1) s.heap.objs.size D (Nat.succ_ne_self _) (Nat.ne_of_lt (Nat.lt_succ_of_lt hD)) (Nat.ne_of_lt hD) its
  have st0 : (∃ old, IsEnum h' (s.heap.objs.size + 1) s.heap.objs.size ((0 : Nat) : Int) old) ∧ h'.IsListIter s.heap.objs.size D 0 ∧ h'.IsList D its := ⟨⟨_, he⟩, hit, (N.isList hm).at fun o e => hk _ _ e⟩
  have fresh : ∀ b, s.heap.objs.size ≤ b → h₀.get? b = none := fun b hb => by
    cases q : h₀.get? b with
    | none => rfl
    | some o => exact absurd (Heap.lt_size (F.keep _ _ q)) (Nat.not_lt.mpr hb)
  refine W.self 0 _ _ _ st0 ?_
  refine codeAny_forLoop_frT (P2 := fun i v0 v1 => ∃ t, v0 = .int i t ∧ its[i]? = some v1) hh W (fun i vals h => by obtain ⟨t, x, hx, rfl⟩ := h; exact ⟨_, _, rfl, t, rfl, hx⟩) hxi hxc hp ?_ ?_ ?_ st0 (F.keeps hk) (N.grown hk) J h0 ?_ ?_
  · intro hb
    simp only [List.mem_cons, List.not_mem_nil, or_false] at hb
    rcases hb with hb | hb | hb
    · exact absurd hb (Nat.ne_of_lt (Nat.lt_succ_of_lt hL))
    · exact absurd hb (Nat.ne_of_lt hL)
    · exact hDL hb.symm
  · intro b hb
    simp only [List.mem_cons, List.not_mem_nil, or_false] at hb
    rcases hb with rfl | rfl
    · exact fresh _ (Nat.le_succ _)
    · exact fresh _ (Nat.le_refl _)
  · intro p hp' hb
    have := Heap.lt_size (N p hp').1
    simp only [List.mem_cons, List.not_mem_nil, or_false] at hb
    rcases hb with hb | hb
    · rw [hb] at this; exact absurd (Nat.lt_of_succ_lt this) (Nat.lt_irrefl _)
    · rw [hb] at this; exact absurd this (Nat.lt_irrefl _)
  · rintro i v0 v1 m₁ news₁ s₁ own ⟨h, tk, rfl⟩ hi ⟨t, rfl, hv⟩ hJ ha ho F₁ N₁
    refine noErr (wpAny_mono (step i v1 t m₁ news₁ _ own ⟨h, tk, rfl⟩ hv hJ ha (fun p hp' => ?_) F₁ N₁) (fun f s₂ hs => ?_) fun _ _ e => e)
    · have := ho p hp'
      simp only [List.mem_cons, List.not_mem_nil, or_false] at this
      rcases this with e | e | e
      · exact .inr (by rw [e]; exact Nat.le_succ _)
      · exact .inr (by rw [e]; exact Nat.le_refl _)
      · exact .inl e
    · cases f with
      | ret v => exact ⟨_, rfl, hs⟩
      | brk => exact ⟨_, rfl, hs⟩
      | next => exact hs
      | cont => exact hs
  · intro h2 tk m' news' F' N' ha hJ
    exact ⟨_, rfl, done h2 tk m' news' F' N' ha hJ⟩
end

end Mine

theorem Mine.rs_seg : True ∧ True := by
  w_top off
  try (walk1; fail)
  exact ⟨True.intro, True.intro⟩

namespace Mine
-- needs: pre tok loop
section
variable {M : Model} {A : Around} {R : GenEnd} {Y : Protocol} {n : Nat} {s₀ : Shared} {c : Code} {fs : List Frame} {s : Shared} {env : Env}
  {K : Flow → Sem Fin} {H : Value → Sem Fin} {gd : Bool → Bool} {lv : List Value → List Value}
theorem seg_step {α β : Type} {m : Sem α} {k : α → Sem β} {K' : β → Sem Fin} {H' : Value → Sem Fin}
    (h : wpAny M (A.over c fs) m (fun a s' => Seg M A R Y n s₀ c ((k a).wrap K' H' gd lv) fs s') (fun _ _ => False) s) : Seg M A R Y n s₀ c ((m >>= k).wrap K' H' gd lv) fs s :=
  seg_bind_wrap (noErr h)
theorem seg_plain {α : Type} {m : Sem α} {K' : α → Sem Fin} {H' : Value → Sem Fin}
    (h : wpAny M (A.over c fs) m (fun a s' => Seg M A R Y n s₀ c (K' a) fs s') (fun _ _ => False) s) : Seg M A R Y n s₀ c (m.wrap K' H' gd lv) fs s :=
  seg_wrap (noErr h)
noncomputable abbrev backTo (env : Env) (r : Result) : Sem Flow := (match r with | .ok f => (.pure f : Sem Flow) | .error e => .raise e).onRaise fun (x : Value) => do
        if (← field x 1) == Value.none then unsupported "frame.own-activation:exception-without-traceback"
        setFlight x env.frame
theorem seg_For {target iter : Expr} {body orelse : List Stmt} {pos : Pos} (hs : ∀ x, foldedSetIterable iter env x = pure x)
    (h : wpAny M (A.over c fs) (eval iter env) (fun x s₁ => wpAny M (A.over c fs) (pyIter x) (fun it s₂ => ∀ p,
      Seg M A R Y n s₀ (.forLoop target it body orelse env) (M.den (.forLoop target it body orelse env)) (.ret (fun r => (backTo env r).wrap K H gd lv) none (gd false) (lv []) c p [] :: fs) s₂)
      (fun _ _ => False) s₁) (fun _ _ => False) s) : Seg M A R Y n s₀ c ((exec (.For target iter body orelse pos) env).wrap K H gd lv) fs s := by
  rw [exec_For]
  refine seg_step (wpAny_standAt ?_)
  refine seg_step (wpAny_mono h (fun x s₁ h₁ => ?_) fun _ _ e => e)
  refine seg_step (wpAny_of_eq (hs x) ?_)
  refine seg_step (wpAny_standAt ?_)
  refine seg_step (wpAny_holding (wpAny_mono h₁ (fun it s₂ h₂ => ?_) fun _ _ e => e))
  exact seg_call h₂
theorem seg_If {test : Expr} {body orelse : List Stmt} {pos : Pos}
    (h : wpAny M (A.over c fs) (isTrue test env (eval test env)) (fun b s₁ => Seg M A R Y n s₀ c ((execs (if b = true then body else orelse) env).wrap K H gd lv) fs s₁) (fun _ _ => False) s) :
    Seg M A R Y n s₀ c ((exec (.If test body orelse pos) env).wrap K H gd lv) fs s := by
  rw [exec_If]
  refine seg_step (wpAny_standAt ?_)
  refine seg_step (wpAny_mono h (fun b s₁ h₁ => ?_) fun _ _ e => e)
  cases b <;> exact h₁
end
section
variable {prog : Program} {w : World} {A : Around} {R : GenEnd} {Y : Protocol} {n : Nat} {s₀ : Shared} {fs : List Frame} {s : Shared} {env : Env}
noncomputable abbrev forK (target : Expr) (it : Value) (body : List Stmt) (env : Env) (f : Flow) : Sem Fin := match f with
  | .next | .cont => .pure (.again (.forLoop target it body [] env))
  | .brk => .pure (.done .next)
  | .ret v => .pure (.done (.ret v))
theorem seg_forLoop {target : Expr} {it : Value} {body : List Stmt}
    (h : wpAny (model prog w) (A.over (.forLoop target it body [] env) fs) (pyNext it) (fun r s₁ => match r with
      | none => Seg (model prog w) A R Y n s₀ (.block [] env) (leafOf (.ok .next)) fs s₁
      | some v => wpAny (model prog w) (A.over (.forLoop target it body [] env) fs) (letOwnedTupleGo target it v) (fun _ s₂ => wpAny (model prog w) (A.over (.forLoop target it body [] env) fs) (assign target env v) (fun _ s₃ =>
          Seg (model prog w) A R Y n s₀ (.forLoop target it body [] env) ((execs body env).wrap (forK target it body env) (fun e => (do noteFrame e env; theTreesLotGoes e : Sem Unit).wrap (fun _ => .raise e) .raise id id) id id) fs s₃)
          (fun _ _ => False) s₂) (fun _ _ => False) s₁) (fun _ _ => False) s) :
    Seg (model prog w) A R Y n s₀ (.forLoop target it body [] env) ((model prog w).den (.forLoop target it body [] env)) fs s := by
  show Seg _ A R Y n s₀ _ ((forTurn target it body [] env).onRaise (fun x => do noteFrame x env; theTreesLotGoes x)) fs s
  unfold forTurn
  rw [Sem.onRaise_eq_wrap]
  refine seg_step (wpAny_standAt ?_)
  refine seg_step (wpAny_onRaise (wpAny_mono h (fun r s₁ h₁ => ?_) fun _ _ e => e.elim))
  cases r with
  | none => exact seg_again rfl h₁
  | some v =>
    refine seg_step (wpAny_mono h₁ (fun _ s₂ h₂ => ?_) fun _ _ e => e)
    refine seg_step (wpAny_mono h₂ (fun _ s₃ h₃ => ?_) fun _ _ e => e)
    rw [Sem.bind_eq_wrap', Sem.wrap_wrap]
    rw [Sem.wrap_congr (execs body env) _ _ (K' := forK target it body env) (H' := (fun e => (do noteFrame e env; theTreesLotGoes e : Sem Unit).wrap (fun _ => .raise e) .raise id id))
        (fun f => by cases f <;> rfl)
        (fun e => by first | exact Sem.bind_eq_wrap _ _ | (show (do noteFrame e env; theTreesLotGoes e : Sem Unit).bind (fun _ => .raise e) = _; rw [Sem.bind_eq_wrap]))]
    exact h₃
end

end Mine

theorem Mine.rs_iadd : True ∧ True := by
  w_top off
  try (walk1; fail)
  exact ⟨True.intro, True.intro⟩

namespace Mine
-- needs: pre
theorem slot_iadd : Slot "list" "__iadd__" "list.__iadd__" :=
  .of (owner := "list") (n := "__iadd__") (by rw [typeLookup_type, builtinLookup_eq_fast]; kernel_rfl) (by decide +kernel) (by decide +kernel) (by decide +kernel)
    (by first | exact .inl (by decide +kernel) | exact .inr (by decide +kernel)) (by rw [isSubtype_type]; kernel_rfl)
theorem args_iadd (a b : Value) : argsOk "list.__iadd__" ⟨[a, b], []⟩ := by
  unfold argsOk; rw [signature?_of (id := "list.__iadd__") (n := ['_', '_', 'd', 'd', 'a', 'i', '_', '_']) (o := ['t', 's', 'i', 'l']) (by kernel_rfl) F.owner_list]; kernel_rfl
section
variable {prog : Program} {w : World} {A : Around} {E : Value → Shared → Prop} {s : Shared} {h₀ : Heap} {L D b : Addr} {m : Str → Option Value} {news news' : List (Addr × Obj)} {xs ys : List Value} {n n2 : Nat}
theorem kl_iadd {Q : Value → Shared → Prop} (F : Fr h₀ L s.heap m) (N : News h₀ L s.heap news) (hb : (b, listOf ys.toArray n2) ∈ news)
    (U : Upd D (listOf xs.toArray n) (listOf (xs ++ ys).toArray (if ys.length = 0 then n else n + 1)) news news') (hz : xs.length + ys.length ≤ 1000)
    (h : ∀ h', Fr h₀ L h' m → News h₀ L h' news' → Q (.ref D) { s with heap := h' }) : wpAny (model prog w) A (inplaceOp .Add (.ref D) (.ref b)) Q E s := by
  obtain ⟨pre, post, rfl, rfl, a, c⟩ := U.split
  have z := N (D, listOf xs.toArray n) (List.mem_append.mpr (.inr (.head _)))
  have ha : s.TypeIs (.ref D) "list" := ⟨_, z.1, rfl⟩
  have hb2 : s.TypeIs (.ref b) "list" := ⟨_, (N _ hb).1, rfl⟩
  unfold inplaceOp
  refine wpAny_holding ?_
  have hfi : fillsInplaceSlot (.type "list") "add" (Operator.Add == .Add) = pure false := by
    unfold fillsInplaceSlot
    show (typeLookup (.type "list") (dunderI "add") >>= fun fi => pure (fi.isSome && !isSeqSlot fi)) = pure false
    rw [show typeLookup (.type "list") (dunderI "add") = _ from slot_iadd.lookup]; rfl
  have hsi : seqSlot? (.type "list") (dunderI "add") = pure (some (.builtin "list.__iadd__")) := PySem.seqSlot_of slot_iadd.lookup (by decide +kernel)
  refine wpAny_bind (wpAny_typeOf ha (wpAny_bind (wpAny_of_eq hfi ?_)))
  show wpAny _ A (if false = true then _ else _) Q E s
  rw [if_neg Bool.false_ne_true]
  refine wpAny_bind (wpAny_binaryOp1_none (nm := "add") ha hb2 noFill_list_add ?_)
  refine wpAny_bind (wpAny_of_eq hsi ?_)
  refine wpAny_bind (wpAny_rule ?_)
  refine call_meets slot_iadd ha PySem.F.entry_list_iadd (args_iadd _ _) (PySem.AutoSeq1.list___iadd___list_list_0 D xs.toArray n b ys.toArray n2 ?_ (by rw [sizeLine_eq, List.size_toArray]; omega) (by rw [sizeLine_eq, List.size_toArray, List.size_toArray]; omega)) ⟨z.1, (N _ hb).1, h _ (F.change (Heap.SameBut.update ..) z.2.1 z.2.2) ?_⟩
  · have : Builtin.List.listTooLong (xs.toArray.size + ys.toArray.size) = false := by
      unfold Builtin.List.listTooLong
      simp only [List.size_toArray, sizeLine_eq, decide_eq_false_iff_not]
      omega
    rw [this]; simp
  · by_cases e : ys.length = 0
    · rw [if_pos e]
      exact kl_turn0 _ N a c (by simp) (by simp [e])
    · rw [if_neg e]
      exact kl_turn _ N a c (by simp) (by simpa using e)
end
theorem rep_flat {α : Type} (v : α) : ∀ k, (List.replicate k [v]).flatten = List.replicate k v
  | 0 => rfl
  | k + 1 => by rw [List.replicate_succ, List.flatten_cons, rep_flat v k, List.replicate_succ]; rfl
theorem rep_len {α : Type} (v : α) (k : Nat) : (List.replicate k [v]).flatten.length = k := by rw [rep_flat, List.length_replicate]
theorem news_skip {h₀ h : Heap} {L : Addr} {p q : Addr × Obj} {l : List (Addr × Obj)} (N : News h₀ L h (p :: q :: l)) : News h₀ L h (p :: l) := fun x hx => N x (by
  rcases List.mem_cons.mp hx with rfl | hx
  · exact .head _
  · exact .tail _ (.tail _ hx))

end Mine

theorem Mine.rs_due : True ∧ True := by
  w_top off
  try (walk1; fail)
  exact ⟨True.intro, True.intro⟩

namespace Mine
-- needs: pre tok loop enu iadd
noncomputable def dueAll (kind : Int) : Nat → List Int → List Int
  | _, [] => []
  | i, x :: xs => List.replicate x.toNat ((kind + i) % 2) ++ dueAll kind (i + 1) xs
noncomputable def dueTo (kind : Int) (xs : List Int) (i : Nat) : List Int := dueAll kind 0 (xs.take i)
theorem dueAll_snoc (kind : Int) (x : Int) : ∀ (xs : List Int) (i : Nat), dueAll kind i (xs ++ [x]) = dueAll kind i xs ++ List.replicate x.toNat ((kind + (i + xs.length : Nat)) % 2)
  | [], i => by simp [dueAll]
  | y :: ys, i => by
    rw [List.cons_append, dueAll, dueAll, dueAll_snoc kind x ys (i + 1), List.append_assoc]
    have : i + 1 + ys.length = i + (y :: ys).length := by simp; omega
    rw [this]
theorem dueTo_succ {kind : Int} {xs : List Int} {i : Nat} {x : Int} (h : xs[i]? = some x) : dueTo kind xs (i + 1) = dueTo kind xs i ++ List.replicate x.toNat ((kind + i) % 2) := by
  unfold dueTo
  have hi : i < xs.length := (List.getElem?_eq_some_iff.mp h).1
  rw [List.take_add_one, h]
  show dueAll kind 0 (List.take i xs ++ [x]) = _
  rw [dueAll_snoc, List.length_take, Nat.min_eq_left (Nat.le_of_lt hi), Nat.zero_add]
theorem dueTo_len {kind : Int} {xs : List Int} (hx : ∀ x ∈ xs, x ≤ 3) : ∀ i, (dueTo kind xs i).length ≤ 3 * i := by
  intro i
  induction i with
  | zero => simp [dueTo, dueAll]
  | succ i ih =>
    cases h : xs[i]? with
    | none =>
      have : xs.length ≤ i := List.getElem?_eq_none_iff.mp h
      unfold dueTo at ih ⊢
      rw [List.take_of_length_le (by omega)] at ih ⊢
      omega
    | some x =>
      rw [dueTo_succ h, List.length_append, List.length_replicate]
      have := hx x (List.mem_of_getElem? h)
      omega
section
variable {w : World} {A A₀ : Around} {s : Shared} {base h₀ : Heap} {env : Env} {outer : List Env} {L : Addr} {m mg mb : Str → Option Value} {news news' : List (Addr × Obj)} {loose : List Str} {mean : ExcName → Option Value} {R : Result → Shared → Prop}
noncomputable def DuePost (h₀ : Heap) (L : Addr) (s : Shared) (l : Addr) (kind : Int) (tk0 : Tok) (zs : List Int) (r : List (Addr × Obj)) (f : Flow) (s₃ : Shared) : Prop :=
  f = .next ∧ ∃ h' tk' m' vs k', s₃ = { s with heap := h', toks := tk' } ∧ Fr h₀ L h' m' ∧ m' "steps" = some (.ref l) ∧ m' "kind" = some (.int kind tk0) ∧ IntsAre vs zs ∧ News h₀ L h' ((l, listOf vs.toArray k') :: r)
theorem DuePost.mk {L l : Addr} {kind : Int} {tk0 : Tok} {zs : List Int} {r : List (Addr × Obj)} {h' : Heap} {tk : Nat} {m' : Str → Option Value} {vs : List Value} {k' : Nat} (F : Fr h₀ L h' m') (a : m' "steps" = some (.ref l)) (b : m' "kind" = some (.int kind tk0)) (hz : IntsAre vs zs)
    (N : News h₀ L h' ((l, listOf vs.toArray k') :: r)) : DuePost h₀ L s l kind tk0 zs r .next { s with heap := h', toks := tk } := ⟨rfl, h', tk, m', vs, k', rfl, F, a, b, hz, N⟩
noncomputable def DueJ (l : Addr) (kind : Int) (tk0 : Tok) (xs : List Int) (n1 n2 : List (Addr × Obj)) (i : Nat) (m : Str → Option Value) (news : List (Addr × Obj)) : Prop :=
  m "steps" = some (.ref l) ∧ m "kind" = some (.int kind tk0) ∧ ∃ vs k', IntsAre vs (dueTo kind xs i) ∧ news = n1 ++ (l, listOf vs.toArray k') :: n2
theorem due_loop {prog : Program} {pk pv pt : Pos} {x1 : Nat} {body : List Stmt} {Q : Flow → Shared → Prop} {D l : Addr} {its : List Value} {xs : List Int} {n k : Nat} {kind : Int} {tk0 : Tok} {r : List (Addr × Obj)} {pt1 : Addr × Obj}
    (hxi : env.kindOf "place" = some .local) (hxc : env.kindOf "size" = some .local)
    (hp : (env.scope.kind == .class || (env.scope.kind == .module && env.locals != env.globals)) = false) (hh : A.handled = none) (hi : IntsAre its xs) (hx : ∀ x ∈ xs, 0 ≤ x ∧ x ≤ 3) (hlen : xs.length ≤ 7)
    (F : Fr h₀ env.locals s.heap m) (N : News h₀ env.locals s.heap (pt1 :: (l, listOf #[] k) :: (D, listOf its.toArray n) :: r)) (hs : m "steps" = some (.ref l)) (hk : m "kind" = some (.int kind tk0))
    (h1 : pt1.1 ≠ l) (h2 : D ≠ l) (h3 : ∀ p ∈ r, p.1 ≠ l) (hll : s.heap.objs.size > l)
    (step : ∀ (i : Nat) (x : Int) (t tx : Tok) (m₁ : Str → Option Value) (s₁ : Shared) (vs : List Value) (k' : Nat) (r' : List (Addr × Obj)), (∃ h tk, s₁ = { s with heap := h, toks := tk }) → 0 ≤ x → x ≤ 3 → i ≤ 7 → vs.length ≤ 30 → IntsAre vs (dueTo kind xs i) → (∀ p ∈ r', p.1 ≠ l) → m₁ "steps" = some (.ref l) → m₁ "kind" = some (.int kind tk0) →
      Fr h₀ env.locals s₁.heap (fun y => if y = "size" then some (.int x tx) else if y = "place" then some (.int i t) else m₁ y) → News h₀ env.locals s₁.heap ((l, listOf vs.toArray k') :: r') →
      wpAny (model prog w) A (execs body env) (DuePost h₀ env.locals s₁ l kind tk0 (dueTo kind xs i ++ List.replicate x.toNat ((kind + i) % 2)) r') (fun _ _ => False) s₁)
    (done : ∀ (h' : Heap) (tk : Nat) (m' : Str → Option Value) (vs : List Value) (k' : Nat), Fr h₀ env.locals h' m' → m' "steps" = some (.ref l) → IntsAre vs (dueTo kind xs xs.length) → vs.length ≤ 30 → News h₀ env.locals h' (pt1 :: (l, listOf vs.toArray k') :: (D, listOf its.toArray n) :: r) → Q .next { s with heap := h', toks := tk }) :
    wpAny (model prog w) A (call (.type "enumerate") [.ref D]) (fun xv s₁ => wpAny (model prog w) A (pyIter xv) (fun it s₂ => ForC prog w A env (.Tuple [.Name "place" pk, .Name "size" pv] x1 pt) body Q it s₂) (fun _ _ => False) s₁) (fun _ _ => False) s := by
  have hsz : its.toArray.size = xs.length := by simp [hi.length]
  refine enum_loop hxi hxc hp hh F N (.tail _ (.tail _ (.head _))) (DueJ l kind tk0 xs [pt1] ((D, listOf its.toArray n) :: r)) ⟨hs, hk, [], k, .nil, rfl⟩ ?_ ?_
  · rintro i v t m₁ news₁ s₁ own hs₁ hv ⟨hs', hk', vs, k', hvs, rfl⟩ ha ho F₁ N₁
    obtain ⟨x, tx, hx1, rfl⟩ := ints_at hi (by simpa using hv)
    have hxx := hx x (List.mem_of_getElem? hx1)
    have hil : i < xs.length := (List.getElem?_eq_some_iff.mp hx1).1
    have hvl : vs.length ≤ 30 := by rw [hvs.length]; have := dueTo_len (kind := kind) (xs := xs) (fun x h => (hx x h).2) i; omega
    have N₂ : News h₀ env.locals s₁.heap ((l, listOf vs.toArray k') :: (own ++ pt1 :: (D, listOf its.toArray n) :: r)) := fun p hp => N₁ p (by
      simp only [List.mem_cons, List.mem_append, List.nil_append, List.cons_append] at hp ⊢
      rcases hp with h | h | h | h | h <;> simp [h])
    refine wpAny_mono (step i x t tx m₁ s₁ vs k' _ hs₁ hxx.1 hxx.2 (by omega) hvl hvs ?_ hs' hk' F₁ N₂) (fun f s₃ h₃ => ?_) fun _ _ e => e
    · intro p hp
      rcases List.mem_append.mp hp with hp | hp
      · rcases ho p hp with e | e
        · rw [e]; exact h2
        · intro e'; rw [e'] at e; exact absurd hll (Nat.not_lt.mpr e)
      · rcases List.mem_cons.mp hp with rfl | hp
        · exact h1
        · rcases List.mem_cons.mp hp with rfl | hp
          · exact h2
          · exact h3 p hp
    · obtain ⟨rfl, h', tk', m', vs', k'', rfl, F', a1, a2, hz, N'⟩ := h₃
      refine ⟨rfl, h', tk', m', [pt1] ++ (l, listOf vs'.toArray k'') :: (D, listOf its.toArray n) :: r, rfl, F', fun p hp => N' p ?_, rfl, a1, a2, vs', k'', by rw [dueTo_succ hx1]; exact hz, rfl⟩
      simp only [List.mem_cons, List.mem_append, List.nil_append, List.cons_append] at hp ⊢
      rcases hp with h | h | h | h | h <;> simp [h]
  · rintro h' tk m' news' F' N' ha ⟨hs', hk', vs, k', hvs, rfl⟩
    rw [hsz] at hvs
    refine done h' tk m' vs k' F' hs' hvs ?_ N'
    rw [hvs.length]; have := dueTo_len (kind := kind) (xs := xs) (fun x h => (hx x h).2) xs.length; omega
end
local macro_rules | `(tactic| walk_at "exec For") => `(tactic| (k_here; k_dflt (refine' Mine.For_rawC ?F ?_ ?hs; (case F => k_asm)); (case hs => (intro _; with_unfolding_all rfl))))
section
variable {w : World} {A A₀ : Around} {s : Shared} {base h₀ : Heap} {env : Env} {outer : List Env} {L : Addr} {m mg mb : Str → Option Value} {news news' : List (Addr × Obj)} {loose : List Str} {mean : ExcName → Option Value} {R : Result → Shared → Prop}
theorem due1_spec {sl : Addr} {a b c kind : Int} {ta tb tc tk0 : Tok} {n : Nat} (hm : (sl, listOf [Value.int a ta, Value.int b tb, Value.int c tc].toArray n) ∈ news) (ha : 1 ≤ a ∧ a ≤ 3) (hb : 1 ≤ b ∧ b ≤ 3) (hc : 1 ≤ c ∧ c ≤ 3) (hk : 0 ≤ kind ∧ kind ≤ 1)
    {kk : Nat} (hkk : 12 ≤ kk) (C : Cx kk w A A₀ base h₀ env outer L mg mb loose mean) (F : Fr h₀ L s.heap m) (N : News h₀ L s.heap news)
    (h : ∀ h' tk D vs k', Fr h₀ L h' m → IntsAre vs ((dueTo kind [a, b, c, c, c, c, c] 7).take 4) → News h₀ L h' ((D, listOf vs.toArray k') :: news) → R (.ok (.ret (.ref D))) { s with heap := h', toks := tk }) :
    codeAny (model PR w) A (.call (.ref 273) ⟨[.ref sl, .int kind tk0, .bool true], []⟩) R s := by
  obtain ⟨B, X, T, hA, hf, hke, hdep, hun, hh⟩ := C
  refine' code_def (binds := [(Str.ofString "sizes", .ref sl), (Str.ofString "kind", .int kind tk0), (Str.ofString "again", .bool true)]) B F X N T hA hf hke ?k6 ?k7 ?k8 ?k9 ?kB ?_ ?c2 ?c3 ?c4 ?c5
  case k6 => k_is
  case k7 => k_is
  case k8 => (first | omega | (have := hdep; omega))
  case k9 => exact BindsTo.of_eq rfl
  case c5 => decide
  case kB => exact locs rfl
  case c2 => exact rfl
  case c3 => exact rfl
  case c4 => exact rfl
  intro g' L' h' FG' F' N' B' X' T'
  (try dsimp only)
  (try k_fold)
  k_steps
  (with_reducible rename Fr _ _ _ _ => F1); (with_reducible rename News _ _ _ _ => N1)
  have hl8 := Heap.lt_size (N1 _ (.tail _ (.head _))).1
  refine due_loop (its := [Value.int a ta, Value.int b tb, Value.int c tc, Value.int c tc, Value.int c tc, Value.int c tc, Value.int c tc]) (xs := [a, b, c, c, c, c, c]) (kind := kind) (tk0 := tk0) rfl rfl rfl hh (by repeat constructor) ?_ (by simp) F1 N1 rfl rfl (by k_ne) (by k_ne) ?_ hl8 ?_ ?_
  · intro x hx
    simp only [List.mem_cons, List.not_mem_nil, or_false] at hx
    rcases hx with rfl | rfl | rfl | rfl | rfl | rfl | rfl <;> omega
  · intro p hp
    rcases List.mem_cons.mp hp with rfl | hp
    · k_ne
    · rcases List.mem_cons.mp hp with rfl | hp
      · k_ne
      · refine ne_of_all (by assumption) ?_ p hp
        omega
  · rintro i x t tx m₁ s₁ vs k' r' ⟨h9, tk9, rfl⟩ hx0 hx3 hi7 hvl hvs hr' hs1 hk1 F9 N9
    rw [two_back (x := Str.ofString "steps") (y := Str.ofString "kind") m₁, hs1, hk1] at F9
    dsimp only at F9
    clear F1 N1
    k_steps
    refine' Mine.kl_iadd ?F ?N ?b ?U ?z ?_
    (case F => k_asm)
    (case N => k_asm)
    (case b => k_mem)
    (case U => k_upd)
    (case z => (rw [rep_len]; omega))
    intro h' F' N'
    k_steps
    (with_reducible rename Fr _ _ _ _ => F8); (with_reducible rename News _ _ _ _ => N8)
    have i9 : IntsAre (vs ++ (List.replicate x.toNat [Value.int ((kind + (i : Int)).fmod 2) (tk9 + 1 + 1)]).flatten) (dueTo kind [a, b, c, c, c, c, c] i ++ List.replicate x.toNat ((kind + (i : Int)) % 2)) := by
      rw [show (kind + (i : Int)) % 2 = (kind + (i : Int)).fmod 2 by rw [Int.fmod_eq_emod_of_nonneg _ (by decide)], ← rep_flat ((kind + (i : Int)).fmod 2) x.toNat]
      exact IntsAre.append hvs (by assumption)
    exact DuePost.mk F8 rfl rfl i9 (news_tl (news_tl N8))
  · intro h9 tk9 m9 vs k9 F9 hs9 hvs hvl N9
    rw [one_back (x := Str.ofString "steps") m9, hs9] at F9
    clear F1 N1
    k_steps
    (with_reducible rename Fr _ _ _ _ => F8); (with_reducible rename News _ _ _ _ => N8)
    exact h _ _ _ _ _ F8 (by assumption) (news_skip (news_skip (news_skip (news_skip (news_skip N8)))))
theorem due0_spec {sl : Addr} {a b c kind : Int} {ta tb tc tk0 : Tok} {n : Nat} (hm : (sl, listOf [Value.int a ta, Value.int b tb, Value.int c tc].toArray n) ∈ news) (ha : 1 ≤ a ∧ a ≤ 3) (hb : 1 ≤ b ∧ b ≤ 3) (hc : 1 ≤ c ∧ c ≤ 3) (hk : 0 ≤ kind ∧ kind ≤ 1)
    {kk : Nat} (hkk : 12 ≤ kk) (C : Cx kk w A A₀ base h₀ env outer L mg mb loose mean) (F : Fr h₀ L s.heap m) (N : News h₀ L s.heap news)
    (h : ∀ h' tk D vs k', Fr h₀ L h' m → IntsAre vs ((dueTo kind [a, b, c] 3).take 4) → News h₀ L h' ((D, listOf vs.toArray k') :: news) → R (.ok (.ret (.ref D))) { s with heap := h', toks := tk }) :
    codeAny (model PR w) A (.call (.ref 273) ⟨[.ref sl, .int kind tk0, .bool false], []⟩) R s := by
  obtain ⟨B, X, T, hA, hf, hke, hdep, hun, hh⟩ := C
  refine' code_def (binds := [(Str.ofString "sizes", .ref sl), (Str.ofString "kind", .int kind tk0), (Str.ofString "again", .bool false)]) B F X N T hA hf hke ?k6 ?k7 ?k8 ?k9 ?kB ?_ ?c2 ?c3 ?c4 ?c5
  case k6 => k_is
  case k7 => k_is
  case k8 => (first | omega | (have := hdep; omega))
  case k9 => exact BindsTo.of_eq rfl
  case c5 => decide
  case kB => exact locs rfl
  case c2 => exact rfl
  case c3 => exact rfl
  case c4 => exact rfl
  intro g' L' h' FG' F' N' B' X' T'
  (try dsimp only)
  (try k_fold)
  k_steps
  (with_reducible rename Fr _ _ _ _ => F1); (with_reducible rename News _ _ _ _ => N1)
  have hl8 := Heap.lt_size (N1 _ (.tail _ (.head _))).1
  refine due_loop (its := [Value.int a ta, Value.int b tb, Value.int c tc]) (xs := [a, b, c]) (kind := kind) (tk0 := tk0) rfl rfl rfl hh (by repeat constructor) ?_ (by simp) F1 N1 rfl rfl (by k_ne) (by k_ne) ?_ hl8 ?_ ?_
  · intro x hx
    simp only [List.mem_cons, List.not_mem_nil, or_false] at hx
    rcases hx with rfl | rfl | rfl <;> omega
  · intro p hp
    rcases List.mem_cons.mp hp with rfl | hp
    · k_ne
    · refine ne_of_all (by assumption) ?_ p hp
      omega
  · rintro i x t tx m₁ s₁ vs k' r' ⟨h9, tk9, rfl⟩ hx0 hx3 hi7 hvl hvs hr' hs1 hk1 F9 N9
    rw [two_back (x := Str.ofString "steps") (y := Str.ofString "kind") m₁, hs1, hk1] at F9
    dsimp only at F9
    clear F1 N1
    k_steps
    refine' Mine.kl_iadd ?F ?N ?b ?U ?z ?_
    (case F => k_asm)
    (case N => k_asm)
    (case b => k_mem)
    (case U => k_upd)
    (case z => (rw [rep_len]; omega))
    intro h' F' N'
    k_steps
    (with_reducible rename Fr _ _ _ _ => F8); (with_reducible rename News _ _ _ _ => N8)
    have i9 : IntsAre (vs ++ (List.replicate x.toNat [Value.int ((kind + (i : Int)).fmod 2) (tk9 + 1 + 1)]).flatten) (dueTo kind [a, b, c] i ++ List.replicate x.toNat ((kind + (i : Int)) % 2)) := by
      rw [show (kind + (i : Int)) % 2 = (kind + (i : Int)).fmod 2 by rw [Int.fmod_eq_emod_of_nonneg _ (by decide)], ← rep_flat ((kind + (i : Int)).fmod 2) x.toNat]
      exact IntsAre.append hvs (by assumption)
    exact DuePost.mk F8 rfl rfl i9 (news_tl (news_tl N8))
  · intro h9 tk9 m9 vs k9 F9 hs9 hvs hvl N9
    rw [one_back (x := Str.ofString "steps") m9, hs9] at F9
    clear F1 N1
    k_steps
    (with_reducible rename Fr _ _ _ _ => F8); (with_reducible rename News _ _ _ _ => N8)
    exact h _ _ _ _ _ F8 (by assumption) (news_skip (news_skip (news_skip (news_skip N8))))
end

end Mine

theorem Mine.rs_gen : True ∧ True := by
  w_top off
  try (walk1; fail)
  exact ⟨True.intro, True.intro⟩

namespace Mine
-- needs: pre tok loop seg
noncomputable abbrev genObj (g : Nat) (nm qn : Value) : Obj := { cls := .type "generator", data := .fields #[.int g 0, nm, qn] }
theorem none_of {h₀ h : Heap} {L : Addr} {m : Str → Option Value} (F : Fr h₀ L h m) {b : Addr} (hb : h.objs.size ≤ b) : h₀.get? b = none := by
  cases q : h₀.get? b with
  | none => rfl
  | some o => exact absurd (Heap.lt_size (F.keep _ _ q)) (Nat.not_lt.mpr hb)
section
variable {prog : Program} {w : World} {A : Around} {s : Shared} {h₀ : Heap} {L : Addr} {m : Str → Option Value} {news : List (Addr × Obj)} {K : Frag}
theorem code_gen {R : Result → Shared → Prop} {name qual : Str} {params : Arguments} {body : List Stmt} {scope : Scope} {dV kV doc pm cdv ct oc : Value} {an od : Option Addr} {osl : Array (Option Value)} {f : Addr} {args : Args} {binds : List (Str × Value)}
    (F : Fr h₀ L s.heap m) (X₀ : K.In h₀) (N : News h₀ L s.heap news) (hlim : h₀.NoLimit)
    (ho : K.lookup f = some ⟨oc, od, .func (fnOf name qual params body scope dV kV doc pm an cdv ct), osl⟩) (hcd : codeIn K cdv qual = true) (hroom : A.depth < recursionLimit)
    (hbind : BindsTo s (fnOf name qual params body scope dV kV doc pm an cdv ct) args binds) (hloc : ∀ y ∈ binds, scope.names.lookup y.1 = some .local)
    (h : ∀ h₁ oC ta tb tk, News h₀ L h₁ ((s.heap.objs.size + 1, genObj s.gens.size (.str name ta) (.str qual tb)) :: (s.heap.objs.size, oC) :: news) → Fr h₀ L h₁ m → h₁.Ns s.heap.objs.size (fun y => binds.reverse.lookup y) → h₁.objs.size = s.heap.objs.size + 2 →
      R (.ok (.ret (.ref (s.heap.objs.size + 1)))) { s with gens := s.gens.push (.fresh (.func body (envOf qual scope s.heap.objs.size f cdv))), heap := h₁, toks := tk })
    (hco : scope.isCoroutine = false) (hgen : scope.isGenerator = true) (hk : scope.kind = .function)
    (hcell : ∀ x ∈ scope.names, x.2 ≠ .cell) : codeAny (model prog w) A (.call (.ref f) args) R s := by
  refine codeAny_call_generator (fd := fnOf name qual params body scope dV kV doc pm an cdv ct) (body := body) hroom ((X₀.keeps F.keep) _ _ ho) rfl hco hgen rfl (codeRec_of (X₀.keeps F.keep) hcd) ?_
  refine hbind _ _ _ _ ?_
  refine wpAny_newFunctionEnv hcell hloc (fun h₁ hns hsb => ⟨(hlim.keeps F.keep).fresh _ hsb, ?_⟩) hk
  have e1 : h₁.objs.size = s.heap.objs.size + 1 := by rw [hsb.1, Heap.size_push]
  have hk₁ : ∀ b o, s.heap.get? b = some o → h₁.get? b = some o := fun b o e => hsb.extBut b o (Nat.ne_of_lt (Heap.lt_size e)) (Heap.get?_push_of_some _ e)
  obtain ⟨oC, es, ep, hoC, hdC⟩ := id hns
  have F1 : Fr h₀ L h₁ m := F.keeps hk₁
  have N1 : News h₀ L h₁ ((s.heap.objs.size, oC) :: news) := fun p hp => by
    rcases List.mem_cons.mp hp with rfl | hp
    · exact ⟨hoC, Nat.ne_of_gt F.ns.lt, none_of F (Nat.le_refl _)⟩
    · exact N.grown hk₁ p hp
  have N2 := News.push F1 N1 (genObj s.gens.size (.str name (s.toks + binds.length)) (.str qual (s.toks + binds.length + 1)))
  rw [e1] at N2
  have r := h (h₁.push (genObj s.gens.size (.str name (s.toks + binds.length)) (.str qual (s.toks + binds.length + 1)))) oC (s.toks + binds.length) (s.toks + binds.length + 1) (s.toks + binds.length + 1 + 1) N2 (F1.push _) (hns.push _) (by rw [Heap.size_push, e1])
  rw [← e1] at r
  exact r
end
theorem others (h₀ h : Heap) (C I D : Addr) : ∃ r : List (Addr × Obj), (∀ p ∈ r, h.get? p.1 = some p.2 ∧ p.1 ≠ C ∧ p.1 ≠ I ∧ p.1 ≠ D ∧ h₀.get? p.1 = none) ∧ ∀ b o, h.get? b = some o → b ≠ C → b ≠ I → b ≠ D → h₀.get? b = none → (b, o) ∈ r := by
  refine ⟨(List.range h.objs.size).filterMap fun b => if b = C ∨ b = I ∨ b = D ∨ (h₀.get? b).isSome then none else (h.get? b).map (Prod.mk b), ?_, ?_⟩
  · intro p hp
    obtain ⟨b, _, hb⟩ := List.mem_filterMap.mp hp
    split at hb
    · cases hb
    · rename_i hc
      obtain ⟨o, ho, rfl⟩ := Option.map_eq_some_iff.mp hb
      simp only [not_or] at hc
      exact ⟨ho, hc.1, hc.2.1, hc.2.2.1, by simpa using hc.2.2.2⟩
  · intro b o ho h1 h2 h3 h4
    refine List.mem_filterMap.mpr ⟨b, List.mem_range.mpr (Heap.lt_size ho), ?_⟩
    rw [if_neg (by simp [h1, h2, h3, h4]), ho]
    rfl
noncomputable def Since (C I : Addr) (s₀ s : Shared) : Prop := ∃ h' tk, s = { s₀ with heap := h', toks := tk } ∧ ∀ b o, b ≠ C → b ≠ I → s₀.heap.get? b = some o → h'.get? b = some o
theorem Since.refl (C I : Addr) (s : Shared) : Since C I s s := ⟨s.heap, s.toks, rfl, fun _ _ _ _ e => e⟩
theorem Since.trans {C I : Addr} {a b c : Shared} (x : Since C I a b) (y : Since C I b c) : Since C I a c := by
  obtain ⟨h, tk, rfl, k⟩ := x
  obtain ⟨h', tk', rfl, k'⟩ := y
  exact ⟨h', tk', rfl, fun b o hC hI e => k' b o hC hI (k b o hC hI e)⟩
theorem Since.of {h₀ h h' : Heap} {C I D : Addr} {oD : Obj} {r rest : List (Addr × Obj)} {s : Shared} {tk : Nat} {m' : Str → Option Value} (hs : s.heap = h) (hk : ∀ b o, h₀.get? b = some o → h.get? b = some o) (hD : h.get? D = some oD)
    (hr : ∀ b o, h.get? b = some o → b ≠ C → b ≠ I → b ≠ D → h₀.get? b = none → (b, o) ∈ r) (F : Fr h₀ C h' m') (N : News h₀ C h' rest) (h1 : (D, oD) ∈ rest) (h2 : ∀ p ∈ r, p ∈ rest) : Since C I s { s with heap := h', toks := tk } := by
  subst hs
  refine ⟨h', tk, rfl, fun b o hC hI e => ?_⟩
  cases q : h₀.get? b with
  | some o' =>
    have := hk _ _ q
    rw [e] at this
    cases this
    exact F.keep _ _ q
  | none =>
    by_cases hb : b = D
    · subst hb
      rw [e] at hD
      cases hD
      exact (N _ h1).1
    · exact (N _ (h2 _ (hr b o e hC hI hb q))).1
noncomputable abbrev GR (C I : Addr) (ys : List Value) (n : Nat) (s₀ s₁ : Shared) : Prop := n = 1 ∧ ys[3]? = none ∧ Since C I s₀ s₁
noncomputable abbrev GE (C I : Addr) (ys : List Value) : GenEnd := fun n s₀ r s₁ => r = .ok (.ret .none) ∧ GR C I ys n s₀ s₁
noncomputable def GY (h₀ : Heap) (C I D : Addr) (oD : Obj) (ys : List Value) : Protocol := fun k s₀ v s kap => ys[3 - k]? = some v ∧ Since C I s₀ s ∧ ∃ oC oI, s.heap.get? C = some oC ∧ s.heap.get? I = some oI ∧
  (k ≠ 0 → ∀ s'', (∀ b o, h₀.get? b = some o → s''.heap.get? b = some o) → s''.heap.get? C = some oC → s''.heap.get? I = some oI → s''.heap.get? D = some oD → kap (.send .none) s'')
section
variable {prog : Program} {w : World} {A : Around} {E : Value → Shared → Prop} {s : Shared}
theorem pyNext_genQ {a : Addr} {g n : Nat} {gs : GenState} {P : Nat → Shared → Shared → Prop} {Y : Protocol} {Q : Option Value → Shared → Prop} (hh : A.handled = none)
    (hl : s.heap.NoLimit) (hroom : A.depth < recursionLimit)
    (hg : s.heap.IsGen a g) (hgs : s.gens[g]? = some gs)
    (hgo : gs.Goes (model prog w) A.in1 (fun n s₀ r s₁ => r = .ok (.ret .none) ∧ P n s₀ s₁) Y n (.send .none) (s.setGen g .running))
    (hY : ∀ v s₁ gs', gs'.bare = true → Y (n - 1) (s.setGen g .running) v s₁ (fun r' s'' => match n with
        | 0 => False
        | m + 1 => gs'.Goes (model prog w) A.in1 (fun n s₀ r s₁ => r = .ok (.ret .none) ∧ P n s₀ s₁) Y m r' s'') → Q (some v) (s₁.setGen g gs'))
    (hP : ∀ s₁, P n (s.setGen g .running) s₁ → ∀ h', (∀ b o, s₁.heap.get? b = some o → h'.get? b = some o) → Q none { s₁.setGen g .finished with heap := h' }) :
    wpAny (model prog w) A (pyNext (.ref a)) Q E s := by
  unfold pyNext
  refine wpAny_bind (wpAny_attempt (wpAny_callSpecial?_slot (name := Str.ofString "__next__") hg.typeIs slot_gen_next
    (wpAny_call_entry slot_gen_next hg.typeIs entry_gen_next ?_ (args_gen_next _))))
  show wpAny _ A.in1 (Builtin.Generator.genWake (.ref a) (.send .none)) _ _ s
  unfold Builtin.Generator.genWake
  refine wpAny_bind (wpAny_holding (wpAny_genNumber hg (wpAny_bind (wpAny_genState hgs ?_))))
  cases gs with
  | running => exact hgo.elim
  | finished => exact hgo.elim
  | _ =>
    refine wpAny_bind (wpAny_roomToWake hl hroom ?_)
    show wpAny _ A.in1 (.resume g (.send .none) [] _) _ _ s
    refine wpAny_resumeQ hgs hgo (fun x s₁ hx => ?_) (fun v s₁ gs' hb hv => ?_)
    · obtain ⟨rfl, hp⟩ := hx
      show wpAny _ A.in1 (newExc (.type "StopIteration") [] >>= _) _ _ _
      refine wpAny_bind ?_
      simp only [newExc, newTuple]
      refine wpAny_bind (wpAny_newObj_type ?_ (by size_fits))
      refine wpAny_bind (m := firstArgMember _ _) (wpAny_of_eq (a := Value.none) (by first | rfl | (simp only [firstArgMember]; rfl)) ?_)
      refine wpAny_newObj_type ?_ (by size_fits)
      simp only [raiseNew]
      refine wpAny_bind (wpAny_bind (wpAny_handled ?_))
      first | rw [show A.in1.handled = none from hh] | rw [hh]
      refine wpAny_throw ?_
      refine wpAny_bind (wpAny_isInstance (T := "StopIteration") (b := true) ⟨_, Heap.get?_push_size _ rfl, rfl⟩ isSubtype_stop ?_)
      exact wpAny_pure (hP s₁ hp _ fun b o hb => Heap.get?_push_of_some _ (Heap.get?_push_of_some _ hb))
    · exact wpAny_pure ⟨v, rfl, wpAny_pure (hY v s₁ gs' hb hv)⟩
theorem bare_set {s s₁ : Shared} {g : Nat} {gs gs' : GenState} (hB : AllBare s.gens) (hgs : s.gens[g]? = some gs) (hb : gs'.bare = true) (e : s₁.gens = (s.setGen g .running).gens) : (s₁.setGen g gs').gens[g]? = some gs' ∧ AllBare (s₁.setGen g gs').gens := by
  have h1 : s₁.gens[g]? = some .running := by rw [e]; exact setGen_self hgs
  have h2 : (s₁.setGen g gs').gens[g]? = some gs' := setGen_self h1
  refine ⟨h2, hB.moved (GenOnlyQ.of (GenOnly.trans ?_ (GenOnly.setGen s₁ g gs')) h2 hb)⟩
  rw [e]
  exact GenOnly.setGen s g .running
theorem next_grp {h₀ : Heap} {L a C I D : Addr} {oD : Obj} {g j : Nat} {nm qn : Value} {ys : List Value} {gs : GenState} {m : Str → Option Value} {rest : List (Addr × Obj)} {Q : Option Value → Shared → Prop} (hh : A.handled = none) (hl : h₀.NoLimit) (hroom : A.depth < recursionLimit) (hj : j ≤ 3)
    (F : Fr h₀ L s.heap m) (N : News h₀ L s.heap ((a, genObj g nm qn) :: rest)) (hC : h₀.get? C = none) (hI : h₀.get? I = none) (hr : ∀ p ∈ rest, p.1 ≠ C ∧ p.1 ≠ I) (haC : a ≠ C) (haI : a ≠ I) (hLC : L ≠ C) (hLI : L ≠ I) (hB : AllBare s.gens) (hgs : s.gens[g]? = some gs)
    (hgo : gs.Goes (model prog w) A.in1 (GE C I ys) (GY h₀ C I D oD ys) (4 - j) (.send .none) (s.setGen g .running))
    (hY : ∀ v h' tk G gs' oC oI, ys[j]? = some v → AllBare G → G[g]? = some gs' → Fr h₀ L h' m → News h₀ L h' ((a, genObj g nm qn) :: (C, oC) :: (I, oI) :: rest) →
      (j < 3 → ∀ s'', (∀ b o, h₀.get? b = some o → s''.heap.get? b = some o) → s''.heap.get? C = some oC → s''.heap.get? I = some oI → s''.heap.get? D = some oD → gs'.Goes (model prog w) A.in1 (GE C I ys) (GY h₀ C I D oD ys) (4 - (j + 1)) (.send .none) s'') →
      Q (some v) { s with heap := h', toks := tk, gens := G })
    (hP : ∀ h' tk G, j = 3 → ys[j]? = none → AllBare G → Fr h₀ L h' m → News h₀ L h' ((a, genObj g nm qn) :: rest) → Q none { s with heap := h', toks := tk, gens := G }) :
    wpAny (model prog w) A (pyNext (.ref a)) Q E s := by
  have hg : s.heap.IsGen a g := ⟨_, nm, qn, (N _ (.head _)).1, rfl, rfl, rfl⟩
  have up : ∀ h', (∀ b o, b ≠ C → b ≠ I → s.heap.get? b = some o → h'.get? b = some o) → Fr h₀ L h' m ∧ News h₀ L h' ((a, genObj g nm qn) :: rest) := fun h' k => by
    refine ⟨⟨F.ns.at' fun o e => k _ o hLC hLI e, fun b o e => k b o (fun q => ?_) (fun q => ?_) (F.keep b o e), F.above⟩, fun p hp => ⟨?_, (N p hp).2⟩⟩
    · rw [q, hC] at e; cases e
    · rw [q, hI] at e; cases e
    · rcases List.mem_cons.mp hp with rfl | hp'
      · exact k _ _ haC haI (N _ hp).1
      · exact k _ _ (hr p hp').1 (hr p hp').2 (N _ hp).1
  refine pyNext_genQ (P := GR C I ys) hh (hl.keeps F.keep) hroom hg hgs hgo (fun v s₁ gs' hb hv => ?_) (fun s₁ hp h' hk => ?_)
  · obtain ⟨hv, ⟨h₁, tk₁, rfl, hk₁⟩, oC, oI, e1, e2, hkap⟩ := hv
    obtain ⟨F1, N1⟩ := up h₁ hk₁
    obtain ⟨b1, b2⟩ := bare_set (s₁ := { s.setGen g .running with heap := h₁, toks := tk₁ }) hB hgs hb rfl
    have e3 : 3 - (4 - j - 1) = j := by omega
    rw [e3] at hv
    refine hY v h₁ tk₁ _ gs' oC oI hv b2 b1 F1 (fun p hp => ?_) (fun hj3 s'' q1 q2 q3 q4 => ?_)
    · rcases List.mem_cons.mp hp with rfl | hp
      · exact N1 _ (.head _)
      · rcases List.mem_cons.mp hp with rfl | hp
        · exact ⟨e1, hLC.symm, hC⟩
        · rcases List.mem_cons.mp hp with rfl | hp
          · exact ⟨e2, hLI.symm, hI⟩
          · exact N1 _ (.tail _ hp)
    · have := hkap (by omega) s'' q1 q2 q3 q4
      have e4 : 4 - j = (4 - (j + 1)) + 1 := by omega
      rw [e4] at this
      exact this
  · obtain ⟨hn, hy, h₁, tk₁, rfl, hk₁⟩ := hp
    have hj3 : j = 3 := by omega
    subst hj3
    obtain ⟨b1, b2⟩ := bare_set (gs' := .finished) (s₁ := { s.setGen g .running with heap := h₁, toks := tk₁ }) hB hgs rfl rfl
    obtain ⟨F1, N1⟩ := up h' fun b o h1 h2 e => hk b o (hk₁ b o h1 h2 e)
    exact hP h' tk₁ _ rfl hy b2 F1 N1
end

end Mine

theorem Mine.rs_gen2 : True ∧ True := by
  w_top off
  try (walk1; fail)
  exact ⟨True.intro, True.intro⟩

namespace Mine
-- needs: pre tok loop seg gen
section
variable {prog : Program} {w : World} {A : Around}
noncomputable abbrev forH (env : Env) (e : Value) : Sem Fin := (do noteFrame e env; theTreesLotGoes e : Sem Unit).wrap (fun _ => .raise e) .raise id id
theorem gen_turns {h₀ : Heap} {I D : Addr} {oD : Obj} {n0 : Nat} {items ys : List Value} {x : Str} {px : Pos} {body : List Stmt} {env : Env} {fs : List Frame} (hh' : (A.over (.forLoop (.Name x px) (.ref I) body [] env) fs).handled = none) (hlen : 3 ≤ items.length) (hoD : oD = listOf items.toArray n0)
    (hD1 : D ≠ env.locals) (hD2 : h₀.get? D = none) (hI1 : I ≠ env.locals) (hI2 : h₀.get? I = none) (hID : I ≠ D)
    (turn : ∀ (n i : Nat) (v lastv : Value) (s₀ s : Shared) (m : Str → Option Value) (r : List (Addr × Obj)) (oI : Obj), n + i = 3 → items[i]? = some v → (∀ k, i = k + 1 → items[k]? = some lastv) → m "last_interval" = some lastv → (∀ p ∈ r, p.1 ≠ I ∧ p.1 ≠ D) → D ≠ I →
      Fr h₀ env.locals s.heap m → News h₀ env.locals s.heap ((I, oI) :: (D, oD) :: r) →
      (∀ h' tk m' oI', Fr h₀ env.locals h' m' → News h₀ env.locals h' ((I, oI') :: (D, oD) :: r) → Since env.locals I s₀ { s with heap := h', toks := tk }) →
      (∀ n', n = n' + 1 → ∀ s₁ s₂ m₂, Fr h₀ env.locals s₂.heap m₂ → s₂.heap.get? I = some oI → s₂.heap.get? D = some oD → m₂ "last_interval" = some v → Since env.locals I s₁ s₂ →
        Seg (model prog w) A (GE env.locals I ys) (GY h₀ env.locals I D oD ys) n s₁ (.forLoop (.Name x px) (.ref I) body [] env) ((model prog w).den (.forLoop (.Name x px) (.ref I) body [] env)) fs s₂) →
      wpAny (model prog w) (A.over (.forLoop (.Name x px) (.ref I) body [] env) fs) (assign (.Name x px) env v) (fun _ s₃ =>
        Seg (model prog w) A (GE env.locals I ys) (GY h₀ env.locals I D oD ys) (n + 1) s₀ (.forLoop (.Name x px) (.ref I) body [] env) ((execs body env).wrap (forK (.Name x px) (.ref I) body env) (forH env) id id) fs s₃) (fun _ _ => False) s)
    (tail : ∀ s₀ s m lastv, items[3]? = none → Fr h₀ env.locals s.heap m → Since env.locals I s₀ s → m "last_interval" = some lastv → Seg (model prog w) A (GE env.locals I ys) (GY h₀ env.locals I D oD ys) 1 s₀ (.block [] env) (leafOf (.ok .next)) fs s) :
    ∀ (k i : Nat) (s₀ s : Shared) (m : Str → Option Value) (lastv : Value), k + i = 3 → Fr h₀ env.locals s.heap m → s.heap.IsListIter I D i → s.heap.get? D = some oD → m "last_interval" = some lastv → (∀ k, i = k + 1 → items[k]? = some lastv) → Since env.locals I s₀ s →
      Seg (model prog w) A (GE env.locals I ys) (GY h₀ env.locals I D oD ys) (k + 1) s₀ (.forLoop (.Name x px) (.ref I) body [] env) ((model prog w).den (.forLoop (.Name x px) (.ref I) body [] env)) fs s := by
  have ready : ∀ (s₀ s : Shared) (m : Str → Option Value), Fr h₀ env.locals s.heap m → s.heap.get? D = some oD → Since env.locals I s₀ s →
      ∃ r, (∀ p ∈ r, p.1 ≠ I ∧ p.1 ≠ D) ∧ ∀ h' : Heap, (∀ b o, b ≠ I → s.heap.get? b = some o → h'.get? b = some o) → ∀ oI, h'.get? I = some oI → Fr h₀ env.locals h' m ∧ News h₀ env.locals h' ((I, oI) :: (D, oD) :: r) ∧
        ∀ h'' tk m' oI', Fr h₀ env.locals h'' m' → News h₀ env.locals h'' ((I, oI') :: (D, oD) :: r) → Since env.locals I s₀ { s with heap := h'', toks := tk } := fun s₀ s m F hD S => by
    obtain ⟨r, hr1, hr2⟩ := others h₀ s.heap env.locals I D
    refine ⟨r, fun p hp => ⟨(hr1 p hp).2.2.1, (hr1 p hp).2.2.2.1⟩, fun h' hk oI hoI => ⟨⟨F.ns.at' fun o e => hk _ o (Ne.symm hI1) e, fun b o e => hk b o (fun q => by rw [q, hI2] at e; cases e) (F.keep b o e), F.above⟩, fun p hp => ?_, fun h'' tk m' oI' F'' N'' => ?_⟩⟩
    · rcases List.mem_cons.mp hp with rfl | hp
      · exact ⟨hoI, hI1, hI2⟩
      · rcases List.mem_cons.mp hp with rfl | hp
        · exact ⟨hk _ _ (Ne.symm hID) hD, hD1, hD2⟩
        · have z := hr1 p hp
          exact ⟨hk _ _ z.2.2.1 z.1, z.2.1, z.2.2.2.2⟩
    · exact S.trans (Since.of rfl F.keep hD hr2 F'' N'' (.tail _ (.head _)) fun p hp => .tail _ (.tail _ hp))
  have item : ∀ (n i : Nat) (v lastv : Value) (s₀ s : Shared) (m : Str → Option Value), n + i = 3 → items[i]? = some v → Fr h₀ env.locals s.heap m → s.heap.IsListIter I D i → s.heap.get? D = some oD → m "last_interval" = some lastv → (∀ k, i = k + 1 → items[k]? = some lastv) → Since env.locals I s₀ s →
      (∀ n', n = n' + 1 → ∀ (s₀ s : Shared) (m : Str → Option Value) (lastv : Value), Fr h₀ env.locals s.heap m → s.heap.IsListIter I D (i + 1) → s.heap.get? D = some oD → m "last_interval" = some lastv → (∀ k, i + 1 = k + 1 → items[k]? = some lastv) → Since env.locals I s₀ s →
        Seg (model prog w) A (GE env.locals I ys) (GY h₀ env.locals I D oD ys) n s₀ (.forLoop (.Name x px) (.ref I) body [] env) ((model prog w).den (.forLoop (.Name x px) (.ref I) body [] env)) fs s) →
      Seg (model prog w) A (GE env.locals I ys) (GY h₀ env.locals I D oD ys) (n + 1) s₀ (.forLoop (.Name x px) (.ref I) body [] env) ((model prog w).den (.forLoop (.Name x px) (.ref I) body [] env)) fs s := by
    intro n i v lastv s₀ s m hi hx F hit hD hl hlast S ih
    have hDl : s.heap.IsList D items.toArray := ⟨_, hD, by rw [hoD], n0, by rw [hoD]⟩
    obtain ⟨r, hr, rd⟩ := ready s₀ s m F hD S
    refine seg_forLoop ?_
    refine wpAny_pyNext_list_item hit hDl (by simpa using hx) fun h' hit' hs' => ?_
    obtain ⟨oI, hoI, hc, hd⟩ := id hit'
    obtain ⟨F1, N1, dn⟩ := rd h' (fun b o hb e => (hs'.2 b hb).trans e) oI hoI
    refine wpAny_of_eq (rfl : letOwnedTupleGo (.Name x px) (.ref I) v = pure ()) ?_
    refine turn n i v lastv s₀ _ m r oI hi hx hlast hl hr (Ne.symm hID) F1 N1 dn fun n' hn s₁ s₂ m₂ F2 q1 q2 q3 S2 => ?_
    refine ih n' hn s₁ s₂ m₂ v F2 ⟨oI, q1, hc, hd⟩ q2 q3 (fun k hk => ?_) S2
    have : i = k := by omega
    rw [← this]; exact hx
  intro k
  induction k with
  | zero =>
    intro i s₀ s m lastv hi F hit hD hl hlast S
    have hi3 : i = 3 := by omega
    subst hi3
    cases hx : items[3]? with
    | none =>
      have hDl : s.heap.IsList D items.toArray := ⟨_, hD, by rw [hoD], n0, by rw [hoD]⟩
      refine seg_forLoop ?_
      refine wpAny_pyNext_list_end hh' hit hDl (by simpa using hx) fun h' hk => ?_
      refine tail s₀ _ m lastv hx ⟨F.ns.at' fun o e => hk _ o (Ne.symm hI1) e, fun b o e => hk b o (fun q => by rw [q, hI2] at e; cases e) (F.keep b o e), F.above⟩ ?_ hl
      exact S.trans ⟨h', s.toks, rfl, fun b o _ hI e => hk b o hI e⟩
    | some v => exact item 0 3 v lastv s₀ s m rfl hx F hit hD hl hlast S fun n' hn => by omega
  | succ k ih =>
    intro i s₀ s m lastv hi F hit hD hl hlast S
    have hx : items[i]? = some items[i] := by
      rw [List.getElem?_eq_getElem (by omega)]
    exact item (k + 1) i _ lastv s₀ s m hi hx F hit hD hl hlast S fun n' hn s₀ s m lastv F' hit' hD' hl' hlast' S' => ih (i + 1) s₀ s m lastv (by omega) F' hit' hD' hl' hlast' S'
end

end Mine

theorem Mine.rs_grp : True ∧ True := by
  w_top off
  try (walk1; fail)
  exact ⟨True.intro, True.intro⟩

namespace Mine
-- needs: pre tok loop re esc seg gen gen2
local macro_rules | `(tactic| walk_at "ite") => `(tactic| first | refine iteT (by assumption) ?_ | refine iteF (by assumption) ?_)
section
variable {w : World} {A A₀ : Around} {s : Shared} {base h₀ : Heap} {env : Env} {outer : List Env} {L : Addr} {m mg mb : Str → Option Value} {news news' : List (Addr × Obj)} {loose : List Str} {mean : ExcName → Option Value} {R : Result → Shared → Prop}
theorem grp_spec {sl : Addr} {items ys : List Value} {n0 : Nat} (hlen : 3 ≤ items.length) (H3 : ∀ i v, i < 3 → items[i]? = some v → ys[i]? = some v ∧ ∃ x t, v = .int x t ∧ 1 ≤ x ∧ x ≤ 3) (H4 : (items[3]? = none ∧ ys[3]? = none) ∨ (∃ t, items[3]? = some (.int 127 t) ∧ ys[3]? = none) ∨ (∃ t, items[3]? = some (.int 0 t) ∧ ys[3]? = items[2]?)) (ml : (sl, listOf items.toArray n0) ∈ news)
    {kk : Nat} (hkk : 4 ≤ kk) (C : Cx kk w A A₀ base h₀ env outer L mg mb loose mean) (F : Fr h₀ L s.heap m) (N : News h₀ L s.heap news)
    (h : ∀ h₁ nm qn tk oC c, News h₀ L h₁ ((s.heap.objs.size + 1, genObj s.gens.size nm qn) :: (s.heap.objs.size, oC) :: news) → Fr h₀ L h₁ m → h₁.objs.size = s.heap.objs.size + 2 →
      (∀ (A : Around) (s'' : Shared), A.handled = none → (∀ b o, h₀.get? b = some o → s''.heap.get? b = some o) → s''.heap.get? s.heap.objs.size = some oC → s''.heap.objs.size = s.heap.objs.size + 2 → s''.heap.get? sl = some (listOf items.toArray n0) →
        (GenState.fresh c).Goes (model PR w) A.in1 (GE s.heap.objs.size (s.heap.objs.size + 2) ys) (GY h₀ s.heap.objs.size (s.heap.objs.size + 2) sl (listOf items.toArray n0) ys) 4 (.send .none) s'') →
      R (.ok (.ret (.ref (s.heap.objs.size + 1)))) { s with gens := s.gens.push (.fresh c), heap := h₁, toks := tk }) :
    codeAny (model PR w) A (.call (.ref 45) ⟨[.ref sl], []⟩) R s := by
  obtain ⟨B, X, T, hA, hf, hke, hdep, hun, hh⟩ := C
  refine' code_gen (binds := [(Str.ofString "grouping", .ref sl)]) F X N T.nolimit ?k1 ?k2 ?k3 ?k4 ?k5 ?_ ?c2 ?c3 ?c4 ?c5
  case k1 => k_is
  case k2 => k_is
  case k3 => omega
  case k4 => exact BindsTo.of_eq rfl
  case k5 => exact locs rfl
  case c2 => exact rfl
  case c3 => exact rfl
  case c4 => exact rfl
  case c5 => decide
  intro h₁ oC ta tb tk N1 F1 ns1 hsz
  refine h h₁ _ _ tk oC _ N1 F1 hsz ?_
  intro A s'' hhA hk hoC hsz2 hD
  refine ⟨rfl, seg_func ?_⟩
  have hCD : s.heap.objs.size ≠ sl := Nat.ne_of_gt (Heap.lt_size (N _ ml).1)
  have F2 : Fr h₀ s.heap.objs.size s''.heap (fun y => [(Str.ofString "grouping", Value.ref sl)].reverse.lookup y) := ⟨ns1.at' fun o e => by rw [(N1 _ (.tail _ (.head _))).1] at e; cases e; exact hoC, hk, Nat.le_trans F.above (Nat.le_of_lt F.ns.lt)⟩
  refine seg_execs_cons (seg_plain ?_)
  iterate 2 walk1
  refine wpAny_storeName_local rfl F2.ns (fun h3 hn3 hs3 => ?_) rfl
  have hsz3 : h3.objs.size = s.heap.objs.size + 2 := hs3.1.trans hsz2
  have F3 : Fr h₀ s.heap.objs.size h3 _ := F2.set hn3 hs3
  have hD3 : h3.get? sl = some (listOf items.toArray n0) := (hs3.2 _ (Ne.symm hCD)).trans hD
  refine seg_execs_cons (seg_For (fun _ => rfl) ?_)
  (iterate 1 walk1)
  have hDl : h3.IsList sl items.toArray := ⟨_, hD3, rfl, n0, rfl⟩
  refine wpAny_pyIter_list hDl ?_
  intro p9
  dsimp only
  rw [hsz3]
  have hslt : sl < s.heap.objs.size := Heap.lt_size (N _ ml).1
  have e1 : s.heap.objs.size + 2 ≠ s.heap.objs.size := Nat.ne_of_gt (Nat.lt_add_of_pos_right (by decide))
  have e2 : h₀.get? (s.heap.objs.size + 2) = none := none_of F (Nat.le_add_right _ _)
  have e3 : s.heap.objs.size + 2 ≠ sl := Nat.ne_of_gt (Nat.lt_of_lt_of_le hslt (Nat.le_add_right _ _))
  have hIt : (h3.push { cls := .type "list_iterator", data := .fields #[.ref sl, .int 0 0] }).IsListIter (s.heap.objs.size + 2) sl 0 := ⟨_, by rw [← hsz3]; exact Heap.get?_push_size _ rfl, rfl, rfl⟩
  refine gen_turns (by exact hhA) hlen rfl (Ne.symm hCD) (N _ ml).2.2 e1 e2 e3 ?turn ?tail 3 0 _ _ _ Value.none rfl (F3.push _) hIt (Heap.get?_push_of_some _ hD3) rfl (fun _ e => by omega) ?since
  case since =>
    refine ⟨_, _, rfl, fun b o hC hI e => Heap.get?_push_of_some _ ((hs3.2 b hC).trans e)⟩
  case tail =>
    intro s₀ s₁ m₁ lastv hx F4 S hl
    have hy : ys[3]? = none := by
      rcases H4 with h4 | ⟨t, h4, _⟩ | ⟨t, h4, _⟩
      · exact h4.2
      · rw [hx] at h4; cases h4
      · rw [hx] at h4; cases h4
    refine seg_leaf _ ?_
    exact seg_end (.ok (.ret .none)) ⟨rfl, rfl, hy, S⟩
  case turn =>
    rintro n i v lastv s₀ s₁ m₁ r oI hni hx hlast hl hr hDI F4 N4 since next
    rw [one_back (x := Str.ofString "last_interval") m₁, hl] at F4
    by_cases hi : i < 3
    · obtain ⟨hy, x, t, rfl, hx1, hx3⟩ := H3 i v hi hx
      have hx127 : (x == 127) = false := by simp; omega
      have hx0 : (x == 0) = false := by simp; omega
      k_steps
      (with_reducible rename Fr _ _ _ _ => F5); (with_reducible rename News _ _ _ _ => N5)
      clear F4 N4
      refine seg_execs_cons (seg_plain ?_)
      k_steps
      refine seg_execs_cons (seg_plain ?_)
      k_steps
      refine seg_execs_cons (seg_Expr_Yield rfl rfl rfl (noErr ?_))
      k_steps
      rename_i kap hkap
      have hni : 3 - n = i := by omega
      obtain ⟨oC, es, ep, hoC, hdC⟩ := id F5.ns
      refine ⟨by rw [hni]; exact hy, since _ _ _ _ F5 N5, oC, oI, hoC, (N5 _ (.head _)).1, fun hn0 s₂ q1 q2 q3 q4 => ?_⟩
      obtain ⟨n', hn'⟩ := Nat.exists_eq_succ_of_ne_zero hn0
      refine hkap .none s₂ ?_
      obtain ⟨r2, hr1, hr2⟩ := others h₀ s₂.heap s.heap.objs.size (s.heap.objs.size + 2) sl
      have F9 := Fr.mk (F5.ns.at' (h' := s₂.heap) fun o e => by rw [hoC] at e; cases e; exact q2) q1 F5.above
      have N9 : News h₀ s.heap.objs.size s₂.heap ((s.heap.objs.size + 2, oI) :: (sl, listOf items.toArray n0) :: r2) := fun p hp => by
        rcases List.mem_cons.mp hp with rfl | hp
        · exact ⟨q3, e1, e2⟩
        · rcases List.mem_cons.mp hp with rfl | hp
          · exact ⟨q4, Ne.symm hCD, (N _ ml).2.2⟩
          · have z := hr1 p hp
            exact ⟨z.1, z.2.1, z.2.2.2.2⟩
      clear F5 N5
      refine seg_execs_cons (seg_plain ?_)
      k_steps
      (with_reducible rename Fr _ _ _ _ => F10); (with_reducible rename News _ _ _ _ => N10)
      refine seg_execs_nil ?_
      refine seg_again rfl ?_
      refine next n' hn' s₂ _ _ F10 (N10 _ (.head _)).1 (N10 _ (.tail _ (.head _))).1 rfl ?_
      exact Since.of rfl q1 q4 hr2 F10 N10 (.tail _ (.head _)) fun p hp => .tail _ (.tail _ hp)
    · have hi3 : i = 3 := by omega
      have hn0 : n = 0 := by omega
      subst hi3 hn0
      rcases H4 with h4 | ⟨t, h4, hy⟩ | ⟨t, h4, hy⟩
      · rw [h4.1] at hx; cases hx
      · rw [h4] at hx; cases hx
        k_steps
        (with_reducible rename Fr _ _ _ _ => F5); (with_reducible rename News _ _ _ _ => N5)
        clear F4 N4
        refine seg_execs_cons (seg_plain ?_)
        k_steps
        refine seg_leaf (.ok (.ret .none)) ?_
        exact seg_end (.ok (.ret .none)) ⟨rfl, rfl, hy, since _ _ _ _ F5 N5⟩
      · rw [h4] at hx; cases hx
        have hl2 := hlast 2 rfl
        obtain ⟨hy2, x, t2, rfl, hx1, hx3⟩ := H3 2 lastv (by decide) hl2
        rw [hl2] at hy
        k_steps
        (with_reducible rename Fr _ _ _ _ => F5); (with_reducible rename News _ _ _ _ => N5)
        clear F4 N4
        refine seg_execs_cons (seg_plain ?_)
        k_steps
        refine seg_execs_cons (seg_If ?_)
        k_steps
        rw [if_pos (show ((0 : Int) == 0) = true from rfl)]
        refine seg_execs_cons (seg_plain ?_)
        k_steps
        refine seg_execs_cons (seg_While ?_)
        intro p8
        refine seg_whileLoop (noErr ?_)
        k_steps
        refine seg_execs_cons (seg_Expr_Yield rfl rfl rfl (noErr ?_))
        k_steps
        rename_i kap hkap
        obtain ⟨oC, es, ep, hoC, hdC⟩ := id F5.ns
        exact ⟨hy, since _ _ _ _ F5 N5, oC, oI, hoC, (N5 _ (.head _)).1, fun hn0 => absurd rfl hn0⟩
end

end Mine

theorem Mine.rs_stl : True ∧ True := by
  w_top off
  try (walk1; fail)
  exact ⟨True.intro, True.intro⟩

namespace Mine
-- needs: pre tok loop new re ext esc lex rd ci gr rawt enu seg iadd due gen gen2
theorem dueTo_ge {kind : Int} {xs : List Int} (hx : ∀ x ∈ xs, 1 ≤ x) : ∀ i, i ≤ xs.length → i ≤ (dueTo kind xs i).length := by
  intro i
  induction i with
  | zero => intro _; exact Nat.zero_le _
  | succ i ih =>
    intro hi
    have hx1 : xs[i]? = some xs[i] := List.getElem?_eq_getElem (by omega)
    rw [dueTo_succ hx1, List.length_append, List.length_replicate]
    have := hx _ (List.mem_of_getElem? hx1)
    have := ih (by omega)
    omega
noncomputable def StPost (h₀ : Heap) (L : Addr) (s : Shared) (st : Addr) (kd : Int) (zs : List Int) (r : List (Addr × Obj)) (f : Flow) (s₃ : Shared) : Prop :=
  ∃ h' tk' m' vs k' kt, s₃ = { s with heap := h', toks := tk' } ∧ Fr h₀ L h' m' ∧ m' "steps" = some (.ref st) ∧ m' "kind" = some (.int kd kt) ∧ IntsAre vs zs ∧ News h₀ L h' ((st, listOf vs.toArray k') :: r) ∧ ((f = .brk ∧ 4 ≤ zs.length) ∨ (f = .next ∧ zs.length < 4))
section
variable {prog : Program} {w : World} {A : Around} {s : Shared} {env : Env} {h₀ : Heap} {m : Str → Option Value} {news : List (Addr × Obj)}
noncomputable def StInv (prog : Program) (w : World) (A : Around) (h₀ : Heap) (L C D st : Addr) (oD : Obj) (g : Nat) (nm qn : Value) (ys : List Value) (xs : List Int) (kind : Int) (news : List (Addr × Obj)) (s : Shared) (n : Nat) (s' : Shared) : Prop :=
  ∃ j h tk G gs m' vs k' kt, n + j = 4 ∧ j ≤ 3 ∧ s' = { s with heap := h, toks := tk, gens := G } ∧ AllBare G ∧ G[g]? = some gs ∧ Fr h₀ L h m' ∧ m' "steps" = some (.ref st) ∧ m' "kind" = some (.int ((kind + (j : Int)) % 2) kt) ∧ IntsAre vs (dueTo kind xs j) ∧
    News h₀ L h ((C + 1, genObj g nm qn) :: (st, listOf vs.toArray k') :: news) ∧ gs.Goes (model prog w) A.in1 (GE C (C + 2) ys) (GY h₀ C (C + 2) D oD ys) (4 - j) (.send .none) (({ s with heap := h, toks := tk, gens := G } : Shared).setGen g .running)
theorem steps_loop {pk : Pos} {body : List Stmt} {Q : Flow → Shared → Prop} {C D st : Addr} {oC oD : Obj} {g k : Nat} {nm qn : Value} {c : Code} {ys : List Value} {xs : List Int} {kind : Int} {tk0 : Tok}
    (hh : A.handled = none) (hl : h₀.NoLimit) (hroom : A.depth < recursionLimit) (F : Fr h₀ env.locals s.heap m) (N : News h₀ env.locals s.heap ((C + 1, genObj g nm qn) :: (C, oC) :: (st, listOf #[] k) :: news)) (hm1 : m "steps" = some (.ref st)) (hm2 : m "kind" = some (.int kind tk0)) (hk : 0 ≤ kind ∧ kind ≤ 1)
    (hst : @LT.lt Nat _ st C) (hnews : ∀ p ∈ news, @LT.lt Nat _ p.1 st) (hD : (D, oD) ∈ news) (hL : @LT.lt Nat _ env.locals C) (hI : h₀.get? (C + 2) = none) (hB : AllBare s.gens) (hg : s.gens[g]? = some (.fresh c))
    (hgo : (GenState.fresh c).Goes (model prog w) A.in1 (GE C (C + 2) ys) (GY h₀ C (C + 2) D oD ys) 4 (.send .none) (s.setGen g .running)) (hys : IntsAre ys xs) (hxs : ∀ x ∈ xs, 1 ≤ x ∧ x ≤ 3) (hyl : ys.length = 3 ∨ ys.length = 4)
    (step : ∀ (j : Nat) (x : Int) (tx kt : Tok) (m₁ : Str → Option Value) (s₁ : Shared) (vs : List Value) (k' : Nat) (r' : List (Addr × Obj)), (∃ h tk G, s₁ = { s with heap := h, toks := tk, gens := G }) → 1 ≤ x → x ≤ 3 → vs.length ≤ 12 → IntsAre vs (dueTo kind xs j) → (∀ p ∈ r', p.1 ≠ st) → m₁ "steps" = some (.ref st) → m₁ "kind" = some (.int ((kind + (j : Int)) % 2) kt) →
      Fr h₀ env.locals s₁.heap m₁ → News h₀ env.locals s₁.heap ((st, listOf vs.toArray k') :: r') →
      wpAny (model prog w) A (assign (.Name "size" pk) env (.int x tx)) (fun _ s₂ => wpAny (model prog w) A (execs body env) (StPost h₀ env.locals s₁ st ((kind + ((j + 1 : Nat) : Int)) % 2) (dueTo kind xs j ++ List.replicate x.toNat ((kind + (j : Int)) % 2)) r') (fun _ _ => False) s₂) (fun _ _ => False) s₁)
    (done : ∀ (h' : Heap) (tk : Nat) (G : Array GenState) (m' : Str → Option Value) (vs : List Value) (k' j : Nat), AllBare G → Fr h₀ env.locals h' m' → m' "steps" = some (.ref st) → j ≤ xs.length → (4 ≤ (dueTo kind xs j).length ∨ j = xs.length) → IntsAre vs (dueTo kind xs j) → vs.length ≤ 12 → News h₀ env.locals h' ((st, listOf vs.toArray k') :: news) → Q .next { s with heap := h', toks := tk, gens := G }) :
    RawT prog w A env (.Name "size" pk) body Q (.ref (C + 1)) s := by
  have hC : h₀.get? C = none := (N _ (.tail _ (.head _))).2.2
  have hxl : xs.length = ys.length := (hys.length).symm
  have hx3 : ∀ x ∈ xs, x ≤ 3 := fun x h => (hxs x h).2
  refine ⟨StInv prog w A h₀ env.locals C D st oD g nm qn ys xs kind news s, 4, ⟨0, s.heap, s.toks, s.gens, .fresh c, m, [], k, tk0, rfl, by omega, rfl, hB, hg, F, hm1, ?_, .nil, fun p hp => N p ?_, hgo⟩, ?_⟩
  · rw [hm2]
    have : (kind + ((0 : Nat) : Int)) % 2 = kind := by omega
    rw [this]
  · rcases List.mem_cons.mp hp with rfl | hp
    · exact .head _
    · exact .tail _ (.tail _ hp)
  · rintro n s' ⟨j, h, tk, G, gs, m₁, vs, k₁, kt, hn, hj, rfl, hBG, hGg, F₁, hs₁, hk₁, hvs, N₁, hgo₁⟩
    have hvl : vs.length ≤ 12 := by rw [hvs.length]; have := dueTo_len (kind := kind) hx3 j; omega
    refine next_grp (rest := (st, listOf vs.toArray k₁) :: news) hh hl hroom hj F₁ N₁ hC hI (fun p hp => ?_) (Nat.succ_ne_self _) (by simp) ?_ ?_ hBG hGg hgo₁ ?_ ?_
    · rcases List.mem_cons.mp hp with rfl | hp
      · exact ⟨Nat.ne_of_lt hst, Nat.ne_of_lt (Nat.lt_of_lt_of_le hst (Nat.le_add_right _ _))⟩
      · have := hnews p hp
        exact ⟨Nat.ne_of_lt (Nat.lt_trans this hst), Nat.ne_of_lt (Nat.lt_of_lt_of_le (Nat.lt_trans this hst) (Nat.le_add_right _ _))⟩
    · exact Nat.ne_of_lt hL
    · exact Nat.ne_of_lt (Nat.lt_of_lt_of_le hL (Nat.le_add_right _ _))
    · intro v h' tk' G' gs' oC' oI' hv hB' hG' F' N' goes
      obtain ⟨x, tx, hx1, rfl⟩ := ints_at hys hv
      have hxx := hxs x (List.mem_of_getElem? hx1)
      have hil : j < xs.length := (List.getElem?_eq_some_iff.mp hx1).1
      refine wpAny_of_eq (rfl : letOwnedTupleGo (.Name "size" pk) (.ref (C + 1)) (.int x tx) = pure ()) ?_
      have N₂ : News h₀ env.locals h' ((st, listOf vs.toArray k₁) :: (C + 1, genObj g nm qn) :: (C, oC') :: (C + 2, oI') :: news) := fun p hp => N' p (by
        simp only [List.mem_cons] at hp ⊢
        rcases hp with h | h | h | h | h <;> simp [h])
      refine wpAny_mono (step j x tx kt m₁ { s with heap := h', toks := tk', gens := G' } vs k₁ _ ⟨h', tk', G', rfl⟩ hxx.1 hxx.2 hvl hvs ?_ hs₁ hk₁ F' N₂) (fun _ s₂ h₂ => wpAny_mono h₂ (fun f s₃ h₃ => ?_) fun _ _ e => e) fun _ _ e => e
      · intro p hp
        simp only [List.mem_cons] at hp
        rcases hp with rfl | rfl | rfl | hp
        · exact Nat.ne_of_gt (Nat.lt_succ_of_lt hst)
        · exact Nat.ne_of_gt hst
        · exact Nat.ne_of_gt (Nat.lt_of_lt_of_le hst (Nat.le_add_right _ _))
        · exact Nat.ne_of_lt (hnews p hp)
      · obtain ⟨h₄, tk₄, m₄, vs₄, k₄, kt₄, rfl, F₄, hs₄, hk₄, hz, N₄, hf⟩ := h₃
        rw [← dueTo_succ hx1] at hz hf
        rcases hf with ⟨rfl, hf⟩ | ⟨rfl, hf⟩
        · refine done h₄ tk₄ G' m₄ vs₄ k₄ (j + 1) hB' F₄ hs₄ hil (.inl hf) hz ?_ fun p hp => N₄ p ?_
          · rw [hz.length]; have := dueTo_len (kind := kind) hx3 (j + 1); omega
          · simp only [List.mem_cons] at hp ⊢
            rcases hp with h | h <;> simp [h]
        · have hj3 : j < 3 := by
            have := dueTo_ge (kind := kind) (fun x h => (hxs x h).1) (j + 1) hil
            omega
          refine ⟨n - 1, by omega, j + 1, h₄, tk₄, G', gs', m₄, vs₄, k₄, kt₄, by omega, by omega, rfl, hB', hG', F₄, hs₄, hk₄, hz, fun p hp => N₄ p ?_, ?_⟩
          · simp only [List.mem_cons] at hp ⊢
            rcases hp with h | h | h <;> simp [h]
          · exact goes hj3 _ F₄.keep (N₄ _ (.tail _ (.tail _ (.head _)))).1 (N₄ _ (.tail _ (.tail _ (.tail _ (.head _))))).1 (N₄ _ (.tail _ (.tail _ (.tail _ (.tail _ hD))))).1
    · intro h' tk' G' hj3 hy hB' F' N'
      have hyl3 : ys.length = 3 := by
        subst hj3
        have := List.getElem?_eq_none_iff.mp hy
        omega
      exact done h' tk' G' m₁ vs k₁ j hB' F' hs₁ (by omega) (.inr (by omega)) hvs hvl (news_tl N')
end

end Mine

theorem Mine.rs_stp : True ∧ True := by
  w_top off
  try (walk1; fail)
  exact ⟨True.intro, True.intro⟩

namespace Mine
-- needs: pre tok loop new re ext esc lex rd ci gr rawt enu seg iadd due gen gen2 grp stl
local macro_rules | `(tactic| walk_at "exec For Name Call cons nil") => `(tactic| (k_here; k_dflt (refine' Mine.For_rawT ?F ?_ ?hs; (case F => k_asm)); (case hs => (intro _; with_unfolding_all rfl))))
section
variable {s : Shared} {h₀ : Heap}
theorem StPost.brk {L st : Addr} {kd : Int} {kt : Tok} {zs : List Int} {r : List (Addr × Obj)} {h' : Heap} {tk : Nat} {m' : Str → Option Value} {vs : List Value} {k' : Nat} (F : Fr h₀ L h' m') (a : m' "steps" = some (.ref st)) (b : m' "kind" = some (.int kd kt)) (hz : IntsAre vs zs)
    (N : News h₀ L h' ((st, listOf vs.toArray k') :: r)) (h : 4 ≤ zs.length) : StPost h₀ L s st kd zs r .brk { s with heap := h', toks := tk } := ⟨h', tk, m', vs, k', kt, rfl, F, a, b, hz, N, .inl ⟨rfl, h⟩⟩
theorem StPost.next {L st : Addr} {kd : Int} {kt : Tok} {zs : List Int} {r : List (Addr × Obj)} {h' : Heap} {tk : Nat} {m' : Str → Option Value} {vs : List Value} {k' : Nat} (F : Fr h₀ L h' m') (a : m' "steps" = some (.ref st)) (b : m' "kind" = some (.int kd kt)) (hz : IntsAre vs zs)
    (N : News h₀ L h' ((st, listOf vs.toArray k') :: r)) (h : zs.length < 4) : StPost h₀ L s st kd zs r .next { s with heap := h', toks := tk } := ⟨h', tk, m', vs, k', kt, rfl, F, a, b, hz, N, .inr ⟨rfl, h⟩⟩
end
section
variable {w : World} {A A₀ : Around} {s : Shared} {base h₀ : Heap} {env : Env} {outer : List Env} {L : Addr} {m mg mb : Str → Option Value} {news news' : List (Addr × Obj)} {loose : List Str} {mean : ExcName → Option Value} {R : Result → Shared → Prop}
theorem steps_spec {sl : Addr} {kind : Int} {tk0 : Tok} {items ys : List Value} {xs : List Int} {n0 : Nat} (hlen : 3 ≤ items.length) (H3 : ∀ i v, i < 3 → items[i]? = some v → ys[i]? = some v ∧ ∃ x t, v = .int x t ∧ 1 ≤ x ∧ x ≤ 3) (H4 : (items[3]? = none ∧ ys[3]? = none) ∨ (∃ t, items[3]? = some (.int 127 t) ∧ ys[3]? = none) ∨ (∃ t, items[3]? = some (.int 0 t) ∧ ys[3]? = items[2]?))
    (hys : IntsAre ys xs) (hxs : ∀ x ∈ xs, 1 ≤ x ∧ x ≤ 3) (hyl : ys.length = 3 ∨ ys.length = 4) (ml : (sl, listOf items.toArray n0) ∈ news) (hk : 0 ≤ kind ∧ kind ≤ 1) (hB : AllBare s.gens)
    {kk : Nat} (hkk : 12 ≤ kk) (C : Cx kk w A A₀ base h₀ env outer L mg mb loose mean) (F : Fr h₀ L s.heap m) (N : News h₀ L s.heap news)
    (h : ∀ h' tk G D vs k' j, AllBare G → Fr h₀ L h' m → j ≤ xs.length → (4 ≤ (dueTo kind xs j).length ∨ j = xs.length) → IntsAre vs ((dueTo kind xs j).take 4) → News h₀ L h' ((D, listOf vs.toArray k') :: news) → R (.ok (.ret (.ref D))) { s with heap := h', toks := tk, gens := G }) :
    codeAny (model PR w) A (.call (.ref 266) ⟨[.ref sl, .int kind tk0], []⟩) R s := by
  obtain ⟨B, X, T, hA, hf, hke, hdep, hun, hh⟩ := C
  refine' code_def (binds := [(Str.ofString "sizes", .ref sl), (Str.ofString "kind", .int kind tk0)]) B F X N T hA hf hke ?k6 ?k7 ?k8 ?k9 ?kB ?_ ?c2 ?c3 ?c4 ?c5
  case k6 => k_is
  case k7 => k_is
  case k8 => (first | omega | (have := hdep; omega))
  case k9 => exact BindsTo.of_eq rfl
  case c5 => decide
  case kB => exact locs rfl
  case c2 => exact rfl
  case c3 => exact rfl
  case c4 => exact rfl
  intro g' L' h' FG' F' N' B' X' T'
  (try dsimp only)
  (try k_fold)
  k_steps
  (with_reducible rename Fr _ _ _ _ => F1); (with_reducible rename News _ _ _ _ => N1)
  refine wpAny_call ?_
  refine grp_spec (ys := ys) (kk := kk - 1) hlen H3 H4 (.tail _ ml) (by omega) (by walk_at "m_cx") F1 N1 ?_
  intro h₁ nm qn tk oC c N2 F2 hsz hgo
  refine wpAny_pyIter_gen ⟨_, nm, qn, (N2 _ (.head _)).1, rfl, rfl, rfl⟩ ?_
  have hsl := Heap.lt_size (N1 _ (.head _)).1
  have hB2 := hB.push (g := .fresh c) rfl
  refine steps_loop (ys := ys) (xs := xs) (kind := kind) (tk0 := tk0) (c := c) (D := sl) (oD := listOf items.toArray n0) hh T'.nolimit ?room F2 N2 rfl rfl hk hsl (by assumption) ml ?hL ?hI hB2 (Array.getElem?_push_size ..) ?hgo hys hxs hyl ?step ?done
  case room => show A.depth + 1 < _; omega
  case hL => exact F1.ns.lt
  case hI => exact none_of F1 (Nat.le_add_right _ _)
  case hgo => exact hgo _ _ hh F2.keep (N2 _ (.tail _ (.head _))).1 hsz (N2 _ (.tail _ (.tail _ (.tail _ ml)))).1
  case step =>
    rintro j x tx kt m₁ s₁ vs k' r' ⟨h9, tk9, G9, rfl⟩ hx1 hx3 hvl hvs hr' hs1 hk1 F9 N9
    rw [two_back (x := Str.ofString "steps") (y := Str.ofString "kind") m₁, hs1, hk1] at F9
    clear F1 N1 F2 N2
    k_steps
    refine' Mine.kl_iadd ?F ?N ?b ?U ?z ?_
    (case F => k_asm)
    (case N => k_asm)
    (case b => k_mem)
    (case U => k_upd)
    (case z => (rw [rep_len]; omega))
    intro h' F' N'
    have i9 : IntsAre (vs ++ (List.replicate x.toNat [Value.int ((kind + (j : Int)) % 2) kt]).flatten) (dueTo kind xs j ++ List.replicate x.toNat ((kind + (j : Int)) % 2)) := by
      rw [← rep_flat ((kind + (j : Int)) % 2) x.toNat]
      exact IntsAre.append hvs (by assumption)
    have hkd : 1 - (kind + (j : Int)) % 2 = (kind + ((j + 1 : Nat) : Int)) % 2 := by omega
    have hz15 : (dueTo kind xs j ++ List.replicate x.toNat ((kind + (j : Int)) % 2)).length ≤ 15 := by
      rw [List.length_append, ← hvs.length, List.length_replicate]; omega
    generalize (vs ++ (List.replicate x.toNat [Value.int ((kind + (j : Int)) % 2) kt]).flatten) = ws at i9 N'
    generalize (dueTo kind xs j ++ List.replicate x.toNat ((kind + (j : Int)) % 2)) = zs at i9 hz15 ⊢
    k_steps
    · (with_reducible rename Fr _ _ _ _ => F8); (with_reducible rename News _ _ _ _ => N8)
      rw [hkd] at F8
      exact StPost.brk F8 rfl rfl i9 (news_tl (news_tl N8)) (by omega)
    · (with_reducible rename Fr _ _ _ _ => F8); (with_reducible rename News _ _ _ _ => N8)
      rw [hkd] at F8
      exact StPost.next F8 rfl rfl i9 (news_tl (news_tl N8)) (by omega)
  case done =>
    intro h9 tk9 G9 m9 vs k9 j hBG F9 hs9 hj hor hvs hvl N9
    rw [one_back (x := Str.ofString "steps") m9, hs9] at F9
    clear F1 N1 F2 N2
    k_steps
    (with_reducible rename Fr _ _ _ _ => F8); (with_reducible rename News _ _ _ _ => N8)
    exact h _ _ _ _ _ _ _ hBG F8 hj hor (by assumption) (news_skip N8)
end

end Mine

theorem Mine.rs_rng : True ∧ True := by
  w_top off
  try (walk1; fail)
  exact ⟨True.intro, True.intro⟩

namespace Mine
-- needs: pre tok loop new re ext esc lex rd ci gr rawt gen
section
variable {prog : Program} {w : World} {A : Around} {s : Shared} {env : Env} {h₀ : Heap} {m : Str → Option Value} {news : List (Addr × Obj)}
noncomputable abbrev rngO (x left : Int) : Obj := { cls := .type "range_iterator", dict := none, data := .fields #[rawInt x, rawInt left, rawInt 1], slots := #[] }
noncomputable def RNext (h₀ : Heap) (L : Addr) (s : Shared) (I : Addr) (oI : Obj) (J : (Str → Option Value) → List (Addr × Obj) → Prop) (Q : Flow → Shared → Prop) (f : Flow) (s₃ : Shared) : Prop := match f with
  | .ret v => Q (.ret v) s₃
  | .brk => False
  | _ => ∃ h' tk m' news', s₃ = { s with heap := h', toks := tk } ∧ Fr h₀ L h' m' ∧ News h₀ L h' ((I, oI) :: news') ∧ (∀ p ∈ news', p.1 ≠ I) ∧ J m' news'
theorem RNext.mk {L I : Addr} {oI : Obj} {J : (Str → Option Value) → List (Addr × Obj) → Prop} {Q : Flow → Shared → Prop} {h' : Heap} {tk : Nat} {m' : Str → Option Value} (F : Fr h₀ L h' m') (N : News h₀ L h' ((I, oI) :: news)) (h : ∀ p ∈ news, p.1 ≠ I) (hJ : J m' news) :
    RNext h₀ L s I oI J Q .next { s with heap := h', toks := tk } := ⟨h', tk, m', news, rfl, F, N, h, hJ⟩
theorem rng_iter {x : Str} {px : Pos} {body : List Stmt} {Q : Flow → Shared → Prop} {k : Nat} {kz : Int} {t0 t1 t2 : Tok} {ra : Addr} (hr : IsRange s.heap ra 0 kz 1 t0 t1 t2) (hkz : kz = k) (hk : k ≤ 1000) (hh : A.handled = none) (F : Fr h₀ env.locals s.heap m) (N : News h₀ env.locals s.heap news)
    (J : Nat → (Str → Option Value) → List (Addr × Obj) → Prop) (h0 : J 0 m news)
    (step : ∀ (i : Nat) (ti : Tok) (m₁ : Str → Option Value) (news₁ : List (Addr × Obj)) (s₁ : Shared) (I : Addr) (oI : Obj), (∃ h tk, s₁ = { s with heap := h, toks := tk }) → i < k → J i m₁ news₁ → (∀ p ∈ news₁, p.1 ≠ I) → s.heap.objs.size ≤ I → Fr h₀ env.locals s₁.heap m₁ → News h₀ env.locals s₁.heap ((I, oI) :: news₁) →
      wpAny (model prog w) A (assign (.Name x px) env (.int i ti)) (fun _ s₂ => wpAny (model prog w) A (execs body env) (RNext h₀ env.locals s₁ I oI (J (i + 1)) Q) (fun _ _ => False) s₂) (fun _ _ => False) s₁)
    (done : ∀ (h' : Heap) (tk : Nat) (m' : Str → Option Value) (news' : List (Addr × Obj)), Fr h₀ env.locals h' m' → News h₀ env.locals h' news' → J k m' news' → Q .next { s with heap := h', toks := tk }) :
    wpAny (model prog w) A (pyIter (.ref ra)) (fun it s₂ => RawT prog w A env (.Name x px) body Q it s₂) (fun _ _ => False) s := by
  subst hkz
  refine wpAny_pyIter_range hr (small_one (by decide) (by decide) (by omega) (by omega)) ?_
  have hI : h₀.get? (s.heap.objs.size) = none := none_of F (Nat.le_refl _)
  have hIL : s.heap.objs.size ≠ env.locals := Nat.ne_of_gt F.ns.lt
  have ex : (Builtin.Range.rangeSize 0 k 1 : Int) = k := by rw [rangeSize_nat]; omega
  rw [ex]
  refine ⟨fun n s' => ∃ i h tk m' news', n + i = k ∧ s' = { s with heap := h, toks := tk } ∧ Fr h₀ env.locals h m' ∧ News h₀ env.locals h ((s.heap.objs.size, rngO i (k - i)) :: news') ∧ (∀ p ∈ news', p.1 ≠ s.heap.objs.size) ∧ J i m' news', k, ⟨0, _, _, m, news, rfl, rfl, F.push _, ?_, fun p hp => ?_, h0⟩, ?_⟩
  · intro p hp
    rcases List.mem_cons.mp hp with rfl | hp
    · refine ⟨?_, hIL, hI⟩
      rw [show (k : Int) - ((0 : Nat) : Int) = k by omega]
      exact Heap.get?_push_size _ rfl
    · exact ⟨Heap.get?_push_of_some _ (N p hp).1, (N p hp).2⟩
  · exact Nat.ne_of_lt (Heap.lt_size (N p hp).1)
  · rintro n s' ⟨i, h, tk, m₁, news₁, hn, rfl, F₁, N₁, hI₁, hJ⟩
    have up : ∀ h' : Heap, (∀ b o, b ≠ s.heap.objs.size → h.get? b = some o → h'.get? b = some o) → Fr h₀ env.locals h' m₁ ∧ News h₀ env.locals h' news₁ := fun h' k => by
      refine ⟨⟨F₁.ns.at' fun o e => k _ o (Ne.symm hIL) e, fun b o e => k b o (fun q => by rw [q, hI] at e; cases e) (F₁.keep b o e), F₁.above⟩, fun p hp => ⟨k _ _ (hI₁ p hp) (N₁ p (.tail _ hp)).1, (N₁ p (.tail _ hp)).2⟩⟩
    by_cases hi : i < k
    · refine wpAny_pyNext_range_item (N₁ _ (.head _)).1 (by omega) fun h' hit hs => ?_
      obtain ⟨F₂, N₂⟩ := up h' fun b o hb e => (hs.2 b hb).trans e
      refine wpAny_of_eq (rfl : letOwnedTupleGo (.Name x px) (.ref (s.heap.objs.size)) _ = pure ()) ?_
      refine wpAny_mono (step i tk m₁ news₁ { s with heap := h', toks := tk + 1 } (s.heap.objs.size) (rngO ((i + 1 : Nat) : Int) (k - ((i + 1 : Nat) : Int))) ⟨_, _, rfl⟩ hi hJ hI₁ (Nat.le_refl _) F₂ fun p hp => ?_) (fun _ s₂ h₂ => wpAny_mono h₂ (fun f s₃ h₃ => ?_) fun _ _ e => e) fun _ _ e => e
      · rcases List.mem_cons.mp hp with rfl | hp
        · refine ⟨?_, hIL, hI⟩
          rw [show (k : Int) - ((i + 1 : Nat) : Int) = k - i - 1 by omega, show ((i + 1 : Nat) : Int) = i + 1 by omega]
          exact hit
        · exact N₂ p hp
      · cases f with
        | ret v => exact h₃
        | brk => exact h₃.elim
        | next =>
          obtain ⟨h₄, tk₄, m₄, news₄, rfl, F₄, N₄, hI₄, hJ₄⟩ := h₃
          exact ⟨n - 1, by omega, i + 1, h₄, tk₄, m₄, news₄, by omega, rfl, F₄, N₄, hI₄, hJ₄⟩
        | cont =>
          obtain ⟨h₄, tk₄, m₄, news₄, rfl, F₄, N₄, hI₄, hJ₄⟩ := h₃
          exact ⟨n - 1, by omega, i + 1, h₄, tk₄, m₄, news₄, by omega, rfl, F₄, N₄, hI₄, hJ₄⟩
    · have hik : i = k := by omega
      subst hik
      refine wpAny_pyNext_range_end hh (N₁ _ (.head _)).1 (by omega) fun h' hk' => ?_
      obtain ⟨F₂, N₂⟩ := up h' fun b o hb e => hk' b o hb e
      exact done h' tk m₁ news₁ F₂ N₂ hJ
end

end Mine

theorem Mine.rs_tabp : True ∧ True := by
  w_top off
  try (walk1; fail)
  exact ⟨True.intro, True.intro⟩

namespace Mine
-- needs: pre hdr
noncomputable abbrev Trip := Str × Str × Int
noncomputable abbrev nstr (n : Int) : Str := Str.ofString (toString n)
noncomputable def grow1 (k : Int) (t : Trip) : List Trip :=
  if k = 0 then [(t.2.1 ++ t.1, t.2.1, t.2.2), (t.1 ++ t.2.1, t.2.1, t.2.2 + Txt.count t.2.1 (Str.ofString "&") + Txt.count t.2.1 (Str.ofString ";"))]
  else [(t.1, t.1 ++ t.2.1, t.2.2), (t.1, t.2.1 ++ t.1, t.2.2 + Txt.count t.1 (Str.ofString "&") + Txt.count t.1 (Str.ofString ";"))]
theorem grow1_len (k : Int) (t : Trip) : (grow1 k t).length = 2 := by unfold grow1; split <;> rfl
noncomputable def okT (t : Trip) : Bool := decide (0 ≤ t.2.2 ∧ t.2.2 < 1000 ∧ t.1.length ≤ 1000 ∧ t.2.1.length ≤ 1000 ∧
  0 ≤ t.2.2 + Txt.count t.2.1 (Str.ofString "&") + Txt.count t.2.1 (Str.ofString ";") ∧ t.2.2 + Txt.count t.2.1 (Str.ofString "&") + Txt.count t.2.1 (Str.ofString ";") < 1000 ∧
  0 ≤ t.2.2 + Txt.count t.1 (Str.ofString "&") + Txt.count t.1 (Str.ofString ";") ∧ t.2.2 + Txt.count t.1 (Str.ofString "&") + Txt.count t.1 (Str.ofString ";") < 1000)
noncomputable def q0 : List Trip := [(Str.ofString "&", Str.ofString "amp;", 0)]
noncomputable def queueTo (ks : List Int) : List Trip := ks.foldl (fun q k => q.flatMap (grow1 k)) q0
theorem queueTo_snoc (ks : List Int) (k : Int) : queueTo (ks ++ [k]) = (queueTo ks).flatMap (grow1 k) := by
  unfold queueTo; rw [List.foldl_append]; rfl
theorem flat2_len {k : Int} : ∀ q : List Trip, (q.flatMap (grow1 k)).length = 2 * q.length
  | [] => rfl
  | t :: q => by rw [List.flatMap_cons, List.length_append, flat2_len q, grow1_len, List.length_cons]; omega
theorem queueTo_len : ∀ (n : Nat) (ks : List Int), ks.length = n → (queueTo ks).length = 2 ^ n
  | 0, ks, h => by rw [List.length_eq_zero_iff.mp h]; rfl
  | n + 1, ks, h => by
    have hne : ks ≠ [] := by intro e; rw [e] at h; cases h
    rw [← List.dropLast_concat_getLast hne, queueTo_snoc, flat2_len, queueTo_len n ks.dropLast (by rw [List.length_dropLast]; omega), Nat.pow_succ]
    omega
theorem queueTo_succ {ks : List Int} {i : Nat} {k : Int} (h : ks[i]? = some k) : queueTo (ks.take (i + 1)) = (queueTo (ks.take i)).flatMap (grow1 k) := by
  rw [List.take_add_one, h]; exact queueTo_snoc _ _
noncomputable def QIs : List Value → List Trip → Prop
  | vs, [] => vs = []
  | vs, t :: q => ∃ ta tb tn r, vs = Value.str t.1 ta :: Value.str t.2.1 tb :: Value.str (nstr t.2.2) tn :: r ∧ QIs r q
theorem QIs.append : ∀ {q q' : List Trip} {vs ws : List Value}, QIs vs q → QIs ws q' → QIs (vs ++ ws) (q ++ q')
  | [], _, _, _, h, h' => by rw [show _ = [] from h]; exact h'
  | _ :: _, _, _, _, ⟨ta, tb, tn, r, e, h⟩, h' => by rw [e]; exact ⟨ta, tb, tn, r ++ _, rfl, QIs.append h h'⟩
theorem QIs.length : ∀ {q : List Trip} {vs : List Value}, QIs vs q → vs.length = 3 * q.length
  | [], _, h => by rw [show _ = [] from h]; rfl
  | _ :: q, _, ⟨_, _, _, r, e, h⟩ => by rw [e]; simp only [List.length_cons, QIs.length h]; omega
noncomputable def nameOf (t : Trip) : Str := t.1 ++ Str.ofString "." ++ t.2.1
noncomputable def tabStep (o : Option (List (Str × Str))) (t : Trip) : Option (List (Str × Str)) := match o with
  | none => none
  | some ps => if (okText (Txt.lower (nameOf t)) && okText (nameOf t) && okText (nstr t.2.2) && decide (t.1.length ≤ 1000 ∧ t.2.1.length ≤ 1000 ∧ (nameOf t).length ≤ 10000 ∧ (nstr t.2.2).length ≤ 1000 ∧ ps.length ≤ 900 ∧ ∀ p ∈ ps, p.1.length ≤ 10000)) = true then
      match ps.find? (fun p => Txt.lower p.1 == Txt.lower (nameOf t)) with
      | none => some (ps ++ [(nameOf t, nstr t.2.2)])
      | some p => if p.2 = nstr t.2.2 then some ps else none
    else none
theorem tab_none : ∀ q : List Trip, q.foldl tabStep none = none
  | [] => rfl
  | _ :: q => tab_none q
theorem tab_at {q : List Trip} {o : Option (List (Str × Str))} {tab : List (Str × Str)} (h : q.foldl tabStep o = some tab) : ∃ ps, o = some ps := by
  cases o with
  | none => rw [tab_none] at h; cases h
  | some ps => exact ⟨ps, rfl⟩
/-- What a step of the table tells. -/
theorem tab_step {ps ps' : List (Str × Str)} {t : Trip} (h : tabStep (some ps) t = some ps') :
    (okText (Txt.lower (nameOf t)) = true ∧ okText (nameOf t) = true ∧ okText (nstr t.2.2) = true) ∧ (t.1.length ≤ 1000 ∧ t.2.1.length ≤ 1000 ∧ (nameOf t).length ≤ 10000 ∧ (nstr t.2.2).length ≤ 1000 ∧ ps.length ≤ 900 ∧ ∀ p ∈ ps, p.1.length ≤ 10000) ∧
    ((ps.find? (fun p => Txt.lower p.1 == Txt.lower (nameOf t)) = none ∧ ps' = ps ++ [(nameOf t, nstr t.2.2)]) ∨ ∃ p, ps.find? (fun p => Txt.lower p.1 == Txt.lower (nameOf t)) = some p ∧ p.2 = nstr t.2.2 ∧ ps' = ps) := by
  unfold tabStep at h
  dsimp only at h
  split at h
  · rename_i hc
    simp only [Bool.and_eq_true, decide_eq_true_eq] at hc
    refine ⟨⟨hc.1.1.1, hc.1.1.2, hc.1.2⟩, hc.2, ?_⟩
    split at h
    · rename_i hf
      exact .inl ⟨hf, (Option.some.inj h).symm⟩
    · rename_i p hf
      split at h
      · rename_i hp
        exact .inr ⟨p, hf, hp, (Option.some.inj h).symm⟩
      · cases h
  · cases h
theorem find_kv {ps : List HP} {x : Str} : (ps.map fun p => (p.k, p.v)).find? (fun p => Txt.lower p.1 == Txt.lower x) = (ps.find? fun p => Txt.lower p.k == Txt.lower x).map fun p => (p.k, p.v) := by
  rw [List.find?_map]; rfl

end Mine

theorem Mine.rs_tabb : True ∧ True := by
  w_top off
  try (walk1; fail)
  exact ⟨True.intro, True.intro⟩

namespace Mine
-- needs: pre tok re loop hdr esc wri loc gro new ext lex rd ci gr gr3 grr hnew
theorem swap2 {h₀ h : Heap} {L : Addr} {a b : Addr × Obj} {r : List (Addr × Obj)} (N : News h₀ L h (a :: b :: r)) : News h₀ L h (b :: a :: r) := fun p hp => N p (by
  simp only [List.mem_cons] at hp ⊢
  rcases hp with h | h | h <;> simp [h])
theorem lex_of {w : World} {l x d f c gn l2 x2 d2 a1 a2 : Addr} {ta tb tc td te tf sa sb sc sd se sf sg : Tok} {fo oc o1 o2 : Obj} (hfo : ∃ v od fd sl, fo = ⟨v, od, .func fd, sl⟩) (hpc : ∀ q ∈ pieces, Piece w f gn [(f, fo), (c, oc), (a2, o2), (a1, o1)] q.1 q.2) :
    ∃ tw, Lex w [(x, instObj 90 d), (d, dictOf (netD w.params (.ref x2) l ta tb tc td te tf) 4), (f, fo), (c, oc), (l2, listOf #[] 0), (x2, instObj 90 d2), (d2, dictOf (netR w.params l2 f sa sb sc sd se sf sg) 5), (a2, o2), (a1, o1)] x d l gn x2 d2 f (netD w.params (.ref x2) l ta tb tc td te tf) (netR w.params l2 f sa sb sc sd se sf sg) tw fo [(f, fo), (c, oc), (a2, o2), (a1, o1)] :=
  ⟨_, .head _, .tail _ (.head _), rfl, rfl, rfl, rfl, rfl, rfl, by simp, by simp, rfl, by simp, hfo, by simp, hpc⟩
structure TabBase (w : World) (bs own news : List (Addr × Obj)) (x d l gn hl tb dtb : Addr) (D cl : Addr) (oD : Obj) (thd : Tok) (st d2 f : Addr) (es es2 : List DictEntry) (te : Tok) (fo : Obj) (fx : List (Addr × Obj)) : Prop where
  lex : Lex w bs x d l gn st d2 f es es2 te fo fx
  m1 : (x, instObj 90 d) ∈ bs
  m2 : (d, dictOf es 4) ∈ bs
  mc : ∃ o, (cl, o) ∈ bs ∧ o.data = .cell (some (.ref x))
  mt : (tb, instObj 227 dtb) ∈ bs
  mdt : (dtb, dictOf (hdrD w.params hl thd) 1) ∈ bs
  mD : (D, oD) ∈ bs
  ne : ∀ p ∈ bs, p.1 ≠ l ∧ p.1 ≠ gn ∧ p.1 ≠ hl
  dis : l ≠ gn ∧ l ≠ hl ∧ gn ≠ hl
  cut : bs = own ++ news
  apart : ∀ p ∈ own, ∀ q ∈ news, p.1 ≠ q.1
  apart3 : ∀ q ∈ news, l ≠ q.1 ∧ gn ≠ q.1 ∧ hl ≠ q.1
  mo1 : (tb, instObj 227 dtb) ∈ own
  mo2 : (dtb, dictOf (hdrD w.params hl thd) 1) ∈ own
  m254 : ∃ ps, (254, tabObj ps) ∈ own
theorem tabBase_of {w : World} {h₀ h : Heap} {L t' x d l gn hl tb dtb f c l2 x2 d2 a1 a2 D cl : Addr} {ot oc ol2 od2 o1 o2 T0 ocl oD fo : Obj} {thd te : Tok} {es es2 : List DictEntry} {news : List (Addr × Obj)}
    (N : News h₀ L h ((t', ot) :: (tb, instObj 227 dtb) :: (dtb, dictOf (hdrD w.params hl thd) 1) :: (hl, listOf #[] 0) :: (l, listOf #[] 0) :: (x, instObj 90 d) :: (d, dictOf es 4) :: (f, fo) :: (c, oc) :: (gn, listOf #[] 0) :: (l2, ol2) :: (x2, instObj 90 d2) :: (d2, od2) :: (a2, o2) :: (a1, o1) :: (254, T0) :: (cl, ocl) :: news))
    (HL : Lex w [(x, instObj 90 d), (d, dictOf es 4), (f, fo), (c, oc), (l2, ol2), (x2, instObj 90 d2), (d2, od2), (a2, o2), (a1, o1)] x d l gn x2 d2 f es es2 te fo [(f, fo), (c, oc), (a2, o2), (a1, o1)]) (hcell : ocl.data = .cell (some (.ref x)))
    (mD : (D, oD) ∈ news) (hr : ∀ p ∈ news, p.1 ≠ 254) (hnc : ∀ p ∈ news, p.1 ≠ cl) (hnl : ∀ p ∈ news, @LT.lt Nat _ p.1 a1) (hcl : @LT.lt Nat _ cl a1)
    (ord : @LT.lt Nat _ 254 a1 ∧ @LT.lt Nat _ a1 a2 ∧ @LT.lt Nat _ a2 d2 ∧ @LT.lt Nat _ d2 x2 ∧ @LT.lt Nat _ x2 l2 ∧ @LT.lt Nat _ l2 gn ∧ @LT.lt Nat _ gn c ∧ @LT.lt Nat _ c f ∧ @LT.lt Nat _ f d ∧ @LT.lt Nat _ d x ∧ @LT.lt Nat _ x l)
    (ht : @LT.lt Nat _ tb t') (hlh : @LT.lt Nat _ l hl) (q10 : @LT.lt Nat _ hl dtb) (q11 : @LT.lt Nat _ dtb tb) (hT : ∃ ps, T0 = tabObj ps) :
    ∃ hl9 bs own, TabBase w bs own news x d l gn hl9 tb dtb D cl oD thd x2 d2 f es es2 te fo [(f, fo), (c, oc), (a2, o2), (a1, o1)] ∧ News h₀ L h ((l, listOf [].toArray 0) :: (gn, listOf #[] 0) :: (hl9, listOf [].toArray 0) :: bs) := by
  have hnn : ∀ p ∈ news, ∀ b : Addr, @LE.le Nat _ a1 b → p.1 ≠ b := fun p hp b hb e => by
    have := hnl p hp
    rw [e] at this
    omega
  refine ⟨hl, _, [(t', ot), (tb, instObj 227 dtb), (dtb, dictOf (hdrD w.params hl thd) 1), (x, instObj 90 d), (d, dictOf es 4), (f, fo), (c, oc), (l2, ol2), (x2, instObj 90 d2), (d2, od2), (a2, o2), (a1, o1), (254, T0), (cl, ocl)],
    ⟨HL.mono fun p hp => ?_, by simp, by simp, ⟨ocl, by simp, hcell⟩, by simp, by simp, List.mem_append_right _ mD, fun p hp => ?_, ⟨?_, ?_, ?_⟩, rfl, fun p hp q hq => ?_, fun q hq => ⟨?_, ?_, ?_⟩, by simp, by simp, by obtain ⟨ps, e⟩ := hT; exact ⟨ps, by rw [e]; simp⟩⟩, fun p hp => N p ?_⟩
  · simp only [List.mem_cons, List.mem_append, List.not_mem_nil, or_false] at hp ⊢
    rcases hp with h | h | h | h | h | h | h | h | h <;> simp [h]
  · rcases List.mem_append.mp hp with hp | hp
    · simp only [List.mem_cons, List.not_mem_nil, or_false] at hp
      rcases hp with rfl | rfl | rfl | rfl | rfl | rfl | rfl | rfl | rfl | rfl | rfl | rfl | rfl | rfl <;> (refine ⟨?_, ?_, ?_⟩ <;> (change @Ne Nat _ _; dsimp only; omega))
    · exact ⟨hnn p hp _ (by omega), hnn p hp _ (by omega), hnn p hp _ (by omega)⟩
  · change @Ne Nat _ _; omega
  · change @Ne Nat _ _; omega
  · change @Ne Nat _ _; omega
  · simp only [List.mem_cons, List.not_mem_nil, or_false] at hp
    rcases hp with rfl | rfl | rfl | rfl | rfl | rfl | rfl | rfl | rfl | rfl | rfl | rfl | rfl | rfl
    all_goals first | exact Ne.symm (hr q hq) | exact Ne.symm (hnc q hq) | exact Ne.symm (hnn q hq _ (by dsimp only; omega))
  · exact Ne.symm (hnn q hq _ (by omega))
  · exact Ne.symm (hnn q hq _ (by omega))
  · exact Ne.symm (hnn q hq _ (by omega))
  · simp only [List.mem_cons, List.mem_append, List.not_mem_nil, or_false] at hp ⊢
    rcases hp with h | h | h | h | h
    · simp [h]
    · simp [h]
    · simp [h]
    · rcases h with h | h | h | h | h | h | h | h | h | h | h | h | h | h <;> simp [h]
    · simp [h]

end Mine

theorem Mine.rs_tabo : True ∧ True := by
  w_top off
  try (walk1; fail)
  exact ⟨True.intro, True.intro⟩

namespace Mine
-- needs: pre tok re loop hdr enu tabp
section
variable {prog : Program} {w : World} {A : Around} {s : Shared} {env : Env} {h₀ : Heap} {m : Str → Option Value}
noncomputable def OPost (h₀ : Heap) (L : Addr) (s : Shared) (tb D l gn : Addr) (q : List Trip) (r : List (Addr × Obj)) (f : Flow) (s₃ : Shared) : Prop :=
  f = .next ∧ ∃ h' tk' m' vs k' its n', s₃ = { s with heap := h', toks := tk' } ∧ Fr h₀ L h' m' ∧ m' "table" = some (.ref tb) ∧ m' "steps" = some (.ref D) ∧ QIs vs q ∧ News h₀ L h' ((l, listOf vs.toArray k') :: (gn, listOf its n') :: r)
noncomputable def TabJ (tb D l gn : Addr) (ks : List Int) (n3 : List (Addr × Obj)) (i : Nat) (m : Str → Option Value) (news : List (Addr × Obj)) : Prop :=
  m "table" = some (.ref tb) ∧ m "steps" = some (.ref D) ∧ ∃ vs k' its n', (i = 0 → vs = [] ∧ its.size = 0) ∧ (0 < i → QIs vs (queueTo (ks.take i))) ∧ news = (l, listOf vs.toArray k') :: (gn, listOf its n') :: n3
theorem tab_outer {pk pv pt : Pos} {x1 : Nat} {body : List Stmt} {Q : Flow → Shared → Prop} {D l gn tb : Addr} {vs0 : List Value} {ks : List Int} {n : Nat} {n3 : List (Addr × Obj)}
    (hxi : env.kindOf "turn" = some .local) (hxc : env.kindOf "kind" = some .local)
    (hp : (env.scope.kind == .class || (env.scope.kind == .module && env.locals != env.globals)) = false) (hh : A.handled = none) (hi : IntsAre vs0 ks)
    (F : Fr h₀ env.locals s.heap m) (N : News h₀ env.locals s.heap ((l, listOf [].toArray 0) :: (gn, listOf #[] 0) :: n3)) (hs : m "table" = some (.ref tb)) (hk : m "steps" = some (.ref D))
    (hD : (D, listOf vs0.toArray n) ∈ n3) (hne : ∀ p ∈ n3, p.1 ≠ l ∧ p.1 ≠ gn)
    (step0 : ∀ (k : Int) (t tx : Tok) (m₁ : Str → Option Value) (s₁ : Shared) (its : Array Value) (k' n' : Nat) (r' : List (Addr × Obj)), (∃ h tk, s₁ = { s with heap := h, toks := tk }) → ks[0]? = some k → its.size = 0 → (∀ p ∈ r', p.1 ≠ l ∧ p.1 ≠ gn) → (∀ p ∈ n3, p ∈ r') → m₁ "table" = some (.ref tb) → m₁ "steps" = some (.ref D) →
      Fr h₀ env.locals s₁.heap (fun y => if y = "kind" then some (.int k tx) else if y = "turn" then some (.int 0 t) else m₁ y) → News h₀ env.locals s₁.heap ((l, listOf [].toArray k') :: (gn, listOf its n') :: r') →
      wpAny (model prog w) A (execs body env) (OPost h₀ env.locals s₁ tb D l gn (q0.flatMap (grow1 k)) r') (fun _ _ => False) s₁)
    (stepS : ∀ (i : Nat) (k : Int) (t tx : Tok) (m₁ : Str → Option Value) (s₁ : Shared) (vs : List Value) (its : Array Value) (k' n' : Nat) (r' : List (Addr × Obj)), (∃ h tk, s₁ = { s with heap := h, toks := tk }) → 0 < i → i < ks.length → ks[i]? = some k → QIs vs (queueTo (ks.take i)) → (∀ p ∈ r', p.1 ≠ l ∧ p.1 ≠ gn) → (∀ p ∈ n3, p ∈ r') → m₁ "table" = some (.ref tb) → m₁ "steps" = some (.ref D) →
      Fr h₀ env.locals s₁.heap (fun y => if y = "kind" then some (.int k tx) else if y = "turn" then some (.int i t) else m₁ y) → News h₀ env.locals s₁.heap ((l, listOf vs.toArray k') :: (gn, listOf its n') :: r') →
      wpAny (model prog w) A (execs body env) (OPost h₀ env.locals s₁ tb D l gn ((queueTo (ks.take i)).flatMap (grow1 k)) r') (fun _ _ => False) s₁)
    (done : ∀ (h' : Heap) (tk : Nat) (m' : Str → Option Value) (vs : List Value) (its : Array Value) (k' n' : Nat), Fr h₀ env.locals h' m' → m' "table" = some (.ref tb) → m' "steps" = some (.ref D) → (0 < ks.length → QIs vs (queueTo ks)) → News h₀ env.locals h' ((l, listOf vs.toArray k') :: (gn, listOf its n') :: n3) → Q .next { s with heap := h', toks := tk }) :
    wpAny (model prog w) A (call (.type "enumerate") [.ref D]) (fun xv s₁ => wpAny (model prog w) A (pyIter xv) (fun it s₂ => ForC prog w A env (.Tuple [.Name "turn" pk, .Name "kind" pv] x1 pt) body Q it s₂) (fun _ _ => False) s₁) (fun _ _ => False) s := by
  have hl8 := Heap.lt_size (N _ (.head _)).1
  have hg8 := Heap.lt_size (N _ (.tail _ (.head _))).1
  have hDn := hne _ hD
  refine enum_loop hxi hxc hp hh F N (.tail _ (.tail _ hD)) (TabJ tb D l gn ks n3) ⟨hs, hk, [], 0, #[], 0, fun _ => ⟨rfl, rfl⟩, fun h => absurd h (Nat.lt_irrefl _), rfl⟩ ?_ ?_
  · rintro i v t m₁ news₁ s₁ own hs₁ hv ⟨hs', hk', vs, k', its, n', h0, hq, rfl⟩ ha ho F₁ N₁
    obtain ⟨k, tx, hx1, rfl⟩ := ints_at hi (by simpa using hv)
    have N₂ : News h₀ env.locals s₁.heap ((l, listOf vs.toArray k') :: (gn, listOf its n') :: (own ++ n3)) := fun p hp => N₁ p (by
      simp only [List.mem_cons, List.mem_append] at hp ⊢
      rcases hp with h | h | h | h <;> simp [h])
    have hr : ∀ p ∈ own ++ n3, p.1 ≠ l ∧ p.1 ≠ gn := fun p hp => by
      rcases List.mem_append.mp hp with hp | hp
      · rcases ho p hp with e | e
        · rw [e]; exact hDn
        · exact ⟨Nat.ne_of_gt (Nat.lt_of_lt_of_le hl8 e), Nat.ne_of_gt (Nat.lt_of_lt_of_le hg8 e)⟩
      · exact hne p hp
    have fin : ∀ f s₃, OPost h₀ env.locals s₁ tb D l gn (queueTo (ks.take (i + 1))) (own ++ n3) f s₃ → LoopStep3 h₀ env.locals own ((l, listOf vs.toArray k') :: (gn, listOf its n') :: n3) (TabJ tb D l gn ks n3 (i + 1)) s₁ (fun v s' => Q (.ret v) s') (fun s' => Q .next s') f s₃ := by
      rintro f s₃ ⟨rfl, h', tk', m', vs', k'', its', n'', rfl, F', a1, a2, hz, N'⟩
      refine ⟨rfl, h', tk', m', (l, listOf vs'.toArray k'') :: (gn, listOf its' n'') :: n3, rfl, F', fun p hp => N' p ?_, rfl, a1, a2, vs', k'', its', n'', fun h => absurd h (Nat.succ_ne_zero _), fun _ => hz, rfl⟩
      simp only [List.mem_cons, List.mem_append] at hp ⊢
      rcases hp with h | h | h | h <;> simp [h]
    rw [queueTo_succ hx1] at fin
    cases i with
    | zero =>
      obtain ⟨rfl, hsz⟩ := h0 rfl
      exact wpAny_mono (step0 k t tx m₁ s₁ its k' n' _ hs₁ hx1 hsz hr (fun p hp => List.mem_append_right _ hp) hs' hk' F₁ N₂) fin fun _ _ e => e
    | succ i =>
      exact wpAny_mono (stepS (i + 1) k t tx m₁ s₁ vs its k' n' _ hs₁ (Nat.succ_pos _) (List.getElem?_eq_some_iff.mp hx1).1 hx1 (hq (Nat.succ_pos _)) hr (fun p hp => List.mem_append_right _ hp) hs' hk' F₁ N₂) fin fun _ _ e => e
  · rintro h' tk m' news' F' N' ha ⟨hs', hk', vs, k', its, n', h0, hq, rfl⟩
    have e : vs0.toArray.size = ks.length := by rw [List.size_toArray, hi.length]
    rw [e] at hq
    refine done h' tk m' vs its k' n' F' hs' hk' (fun h => ?_) N'
    have := hq h
    rwa [List.take_length] at this
end
theorem qA0 (t1 t2 t3 t4 t5 t6 : Tok) : QIs [Value.str (Str.ofString "amp;&") t1, Value.str (Str.ofString "amp;") t2, Value.str (Str.ofString "0") t3, Value.str (Str.ofString "&amp;") t4, Value.str (Str.ofString "amp;") t5, Value.str (Str.ofString (toString (1 : Int))) t6] (q0.flatMap (grow1 0)) := by
  rw [show q0.flatMap (grow1 0) = [(Str.ofString "amp;&", Str.ofString "amp;", 0), (Str.ofString "&amp;", Str.ofString "amp;", 1)] from by decide +kernel, show Str.ofString "0" = nstr 0 from by decide +kernel]
  exact ⟨t1, t2, t3, _, rfl, t4, t5, t6, _, rfl, rfl⟩
theorem qA1 (t1 t2 t3 t4 t5 t6 : Tok) : QIs [Value.str (Str.ofString "&") t1, Value.str (Str.ofString "&amp;") t2, Value.str (Str.ofString "0") t3, Value.str (Str.ofString "&") t4, Value.str (Str.ofString "amp;&") t5, Value.str (Str.ofString (toString (1 : Int))) t6] (q0.flatMap (grow1 1)) := by
  rw [show q0.flatMap (grow1 1) = [(Str.ofString "&", Str.ofString "&amp;", 0), (Str.ofString "&", Str.ofString "amp;&", 1)] from by decide +kernel, show Str.ofString "0" = nstr 0 from by decide +kernel]
  exact ⟨t1, t2, t3, _, rfl, t4, t5, t6, _, rfl, rfl⟩
theorem OPost.mk {h₀ : Heap} {s : Shared} {L tb D l gn : Addr} {q : List Trip} {r : List (Addr × Obj)} {h' : Heap} {tk k' n' : Nat} {m' : Str → Option Value} {vs : List Value} {its : Array Value} (F : Fr h₀ L h' m') (a : m' "table" = some (.ref tb)) (b : m' "steps" = some (.ref D)) (hq : QIs vs q)
    (N : News h₀ L h' ((l, listOf vs.toArray k') :: (gn, listOf its n') :: r)) : OPost h₀ L s tb D l gn q r .next { s with heap := h', toks := tk } := ⟨rfl, h', tk, m', vs, k', its, n', rfl, F, a, b, hq, N⟩

end Mine

theorem Mine.rs_tab : True ∧ True := by
  w_top off
  try (walk1; fail)
  exact ⟨True.intro, True.intro⟩

namespace Mine
-- needs: pre tok re loop hdr esc wri loc gro new ext lex rd ci gr gr3 grr hnew rawt enu seg gen rng iadd tabp tabb tabo
local macro_rules | `(tactic| walk_at "exec For Name Call cons nil") => `(tactic| (k_here; k_dflt (refine' Mine.For_rawT ?F ?_ ?hs; (case F => k_asm)); (case hs => (intro _; with_unfolding_all rfl))))
local macro_rules | `(tactic| walk_at "exec For Tuple Call cons nil") => `(tactic| (k_here; k_dflt (refine' Mine.For_rawC ?F ?_ ?hs; (case F => k_asm)); (case hs => (intro _; with_unfolding_all rfl))))
noncomputable def RJ0 (tb D l gn : Addr) (k : Int) (tx : Tok) (its : Array Value) (k' n' : Nat) (r : List (Addr × Obj)) (j : Nat) (m : Str → Option Value) (news : List (Addr × Obj)) : Prop :=
  m "table" = some (.ref tb) ∧ m "steps" = some (.ref D) ∧ m "kind" = some (.int k tx) ∧ (j = 0 → news = (l, listOf [].toArray k') :: (gn, listOf its n') :: r) ∧
  (j = 1 → ∃ vs k' its n', QIs vs (q0.flatMap (grow1 k)) ∧ news = (l, listOf vs.toArray k') :: (gn, listOf its n') :: r)
theorem perm1 {h₀ h : Heap} {L : Addr} {a b c : Addr × Obj} {r : List (Addr × Obj)} (N : News h₀ L h (a :: b :: c :: r)) : News h₀ L h (c :: b :: a :: r) := fun p hp => N p (by
  simp only [List.mem_cons] at hp ⊢
  rcases hp with h | h | h | h <;> simp [h])
theorem perm2 {h₀ h : Heap} {L : Addr} {a b c : Addr × Obj} {r : List (Addr × Obj)} (N : News h₀ L h (a :: b :: c :: r)) : News h₀ L h (c :: a :: b :: r) := fun p hp => N p (by
  simp only [List.mem_cons] at hp ⊢
  rcases hp with h | h | h | h <;> simp [h])
noncomputable def RJS (tb D l : Addr) (q : List Trip) (k : Int) (tx : Tok) (r : List (Addr × Obj)) (j : Nat) (m : Str → Option Value) (news : List (Addr × Obj)) : Prop :=
  m "table" = some (.ref tb) ∧ m "steps" = some (.ref D) ∧ m "kind" = some (.int k tx) ∧ ∃ vs k', QIs vs (q.drop j ++ (q.take j).flatMap (grow1 k)) ∧ news = (l, listOf vs.toArray k') :: r
noncomputable def RJT (tb l hl : Addr) (q : List Trip) (news0 R0 : List (Addr × Obj)) (j : Nat) (m : Str → Option Value) (news : List (Addr × Obj)) : Prop :=
  m "table" = some (.ref tb) ∧ ∃ (vs : List Value) (k' : Nat) (ps : List HP) (n' : Nat) (tups : List (Addr × Obj)), QIs vs (q.drop j) ∧ (q.take j).foldl tabStep (some []) = some (ps.map fun p => (p.k, p.v)) ∧ (∀ p ∈ ps, (p.a, tupO [.str p.k p.kt, .str p.v p.vt]) ∈ tups) ∧ (∀ p ∈ tups, p.1 ≠ l ∧ p.1 ≠ hl ∧ ∀ q ∈ news0, p.1 ≠ q.1) ∧
    news = (l, listOf vs.toArray k') :: (hl, listOf (ps.map fun p => Value.ref p.a).toArray n') :: (tups ++ R0)
theorem swap12 {h₀ h : Heap} {L : Addr} {a b c : Addr × Obj} {r : List (Addr × Obj)} (N : News h₀ L h (a :: b :: c :: r)) : News h₀ L h (a :: c :: b :: r) := fun p hp => N p (by
  simp only [List.mem_cons] at hp ⊢
  rcases hp with h | h | h | h <;> simp [h])
theorem perm3 {h₀ h : Heap} {L : Addr} {a b c : Addr × Obj} {r : List (Addr × Obj)} (N : News h₀ L h (a :: b :: c :: r)) : News h₀ L h (b :: c :: a :: r) := fun p hp => N p (by
  simp only [List.mem_cons] at hp ⊢
  rcases hp with h | h | h | h <;> simp [h])
theorem HdrAt.mono {r r' : List (Addr × Obj)} {hd d hl : Addr} {ps : List HP} {n ne : Nat} {es : List DictEntry} (H : HdrAt r hd d hl ps n es ne) (h : ∀ p ∈ r, p ∈ r') : HdrAt r' hd d hl ps n es ne :=
  ⟨h _ H.m1, h _ H.m2, H.g1, h _ H.m3, fun p hp => h _ (H.m4 p hp), H.g2, H.g3, H.g4, H.g5⟩
local macro_rules | `(tactic| walk_at "m_sub") => `(tactic| first | exact fun p hp => hp | (refine fun p hp => List.mem_cons_of_mem _ ?_; revert p; walk_at "m_sub"))
local macro_rules | `(tactic| k_mem) => `(tactic| first | with_reducible assumption | (refine List.mem_cons_of_mem _ ?_; with_reducible assumption))
local macro_rules | `(tactic| walk_at "call ref") => `(tactic| (k_here; (with_reducible show wpAny _ _ (call (Value.ref 80) _ _) _ _ _); k_dflt (refine wpAny_call ?_; refine' get_spec ?k ?C ?F ?N ?a ?b ?g ?U ?z ?_; (case C => walk_at "m_cx"); (case k => omega); (case F => k_asm); (case N => k_asm); (case a => k_mem); (case b => k_mem); (case g => assumption); (case U => k_upd); (case z => walk_at "m_size")); intro h' tk F' N'; (try dsimp only)))
local macro_rules | `(tactic| walk_at "call ref") => `(tactic| (k_here; (with_reducible show wpAny _ _ (call (Value.ref 52) _ _) _ _ _); k_dflt (refine wpAny_call ?_; refine' loc_spec ?m ?a ?b ?k ?C ?F ?N ?_; (case F => k_asm); (case N => k_asm); (case m => exact List.Mem.head _); (case a => omega); (case b => omega); (case C => walk_at "m_cx"); (case k => omega)); intro h' tk t' F' N'; (try dsimp only)))
local macro_rules | `(tactic| walk_at "ite") => `(tactic| first | refine iteT (by assumption) ?_ | refine iteF (by assumption) ?_)
theorem tab_add {h₀ h : Heap} {L a9 l hl : Addr} {x v : Str} {tx vt : Tok} {y1 y2 yI : Addr × Obj} {o1 : Obj} {ps : List HP} {n2 : Nat} {tups R0 : List (Addr × Obj)}
    (N : News h₀ L h ((a9, tupO [.str x tx, .str v vt]) :: y1 :: y2 :: (l, o1) :: (hl, listOf ((ps.map fun p => Value.ref p.a).toArray.push (.ref a9)) (n2 + 1)) :: yI :: (tups ++ R0))) :
    News h₀ L h (yI :: (l, o1) :: (hl, listOf ((ps ++ [(⟨a9, x, tx, v, vt⟩ : HP)]).map fun p => Value.ref p.a).toArray (n2 + 1)) :: (((a9, tupO [.str x tx, .str v vt]) :: tups) ++ R0)) := by
  rw [show ((ps ++ [(⟨a9, x, tx, v, vt⟩ : HP)]).map fun p => Value.ref p.a).toArray = (ps.map fun p => Value.ref p.a).toArray.push (.ref a9) by simp]
  intro p hp
  refine N p ?_
  simp only [List.mem_append, List.mem_cons] at hp ⊢
  rcases hp with h | h | h | (h | h) | h <;> simp [h]
section
variable {w : World} {A A₀ : Around} {s : Shared} {base h₀ : Heap} {env : Env} {outer : List Env} {L : Addr} {m mg mb : Str → Option Value} {news news' : List (Addr × Obj)} {loose : List Str} {mean : ExcName → Option Value} {R : Result → Shared → Prop}
theorem table_spec {D : Addr} {vs0 : List Value} {ks : List Int} {tab : List (Str × Str)} {n0 : Nat} (hvs : IntsAre vs0 ks) (hks : ∀ k ∈ ks, k = 0 ∨ k = 1) (hlen : ks.length = 3 ∨ ks.length = 4) (hok : ∀ i, i < ks.length → ∀ t ∈ queueTo (ks.take i), okT t = true) (htab : (queueTo ks).foldl tabStep (some []) = some tab)
    (ml : (D, listOf vs0.toArray n0) ∈ news) (hC : CodeHd h₀ 258 254) (hr : ∀ p ∈ news, p.1 ≠ 254)
    {kk : Nat} (hkk : 30 ≤ kk) (C : Cx kk w A A₀ base h₀ env outer L mg mb loose mean) (F : Fr h₀ L s.heap m) (N : News h₀ L s.heap ((254, tabObj #[]) :: news))
    (h : ∀ h' tk hd d hl ps n es ne extra, Fr h₀ L h' m → News h₀ L h' (news ++ extra) → (∀ p ∈ extra, ∀ q ∈ news, p.1 ≠ q.1) → HdrAt extra hd d hl ps n es ne → ps.map (fun p => (p.k, p.v)) = tab → (∃ q, (254, tabObj q) ∈ extra) → R (.ok (.ret (.ref hd))) { s with heap := h', toks := tk }) :
    codeAny (model PR w) A (.call (.ref 283) ⟨[.ref D], []⟩) R s := by
  obtain ⟨B, X, T, hA, hf, hke, hdep, hun, hh⟩ := C
  refine' code_defC (binds := [(Str.ofString "steps", .ref D)]) B F X N T hA hf hke ?k6 ?k7 ?k8 ?k9 ?kB ?kD ?_ ?c2 ?c3 ?c4
  case k6 => k_is
  case k7 => k_is
  case k8 => (first | omega | (have := hdep; omega))
  case k9 => exact BindsTo.of_eq rfl
  case kB => exact rfl
  case kD => decide +kernel
  case c2 => exact rfl
  case c3 => exact rfl
  case c4 => exact rfl
  intro g' L' h' tk' cells' FG' F' N' Y' B' X' T' l1
  (try k_lt l1)
  k_cells Y'
  (try simp only [List.cons_append, List.nil_append] at N')
  (try dsimp only)
  (try k_fold)
  have hC' := hC.keeps FG'.keep
  k_steps
  (with_reducible rename News g' L' _ _ => N1)
  refine wpAny_call ?_
  refine lexer_raw (kk := kk - 1) hC' ?_ (by omega) (by walk_at "m_cx") F' (swap2 N1) ?_
  · intro p hp
    rcases List.mem_cons.mp hp with rfl | hp
    · exact Nat.ne_of_gt (Nat.lt_succ_of_lt l1.1)
    · exact hr p hp
  intro h9 tk9 l x d ta tb tc td te tf sa sb sc sd se sf sg f fo c oc gn l2 x2 d2 a1 o1 a2 o2 T0 F9 N9 ord hlt hfo hT0 hpc
  have HL := lex_of (w := w) (ta := ta) (tb := tb) (tc := tc) (td := td) (te := te) (tf := tf) (sa := sa) (sb := sb) (sc := sc) (sd := sd) (se := se) (sf := sf) (sg := sg) (l := l) (x := x) (d := d) (gn := gn) (l2 := l2) (x2 := x2) (d2 := d2) hfo hpc
  clear hpc
  k_steps
  obtain ⟨tw, HL⟩ := HL
  (with_reducible rename News g' L' _ _ => N1)
  have hcl : @LT.lt Nat _ (L' + 1) a1 := hlt _ (.head _)
  have hnl : ∀ p ∈ news, @LT.lt Nat _ p.1 a1 := fun p hp => hlt p (.tail _ hp)
  clear hlt
  have hnc : ∀ p ∈ news, p.1 ≠ L' + 1 := ne_of_all (allLt_mem l1.2) (Nat.le_succ _)
  have h254 := l1.1
  refine hnew_spec (kk := kk - 1) (.head _) (by omega) (by walk_at "m_cx") (by k_asm) N1 ?_
  intro h10 tk10 tb dtb thd F10 N10 lt10 lt10'
  have q10 := lt10 _ (.head _)
  change @LT.lt Nat _ _ _ at q10
  dsimp only at q10
  clear lt10
  k_steps
  (with_reducible rename Fr g' L' _ _ => F1); (with_reducible rename News g' L' _ _ => N1)
  obtain ⟨hl, bs, own, TB, N2⟩ := tabBase_of N1 HL (by assumption) ml hr hnc hnl hcl ord (by omega) (by omega) q10 lt10' hT0
  clear N1 hnl hnc ord HL
  obtain ⟨hlex, m1, m2, ⟨ocl, mc, hocl⟩, mt, mdt, mD, hne, hdis, hcut, hap, hap3, mo1, mo2, ⟨q254, m254⟩⟩ := TB
  refine tab_outer rfl rfl rfl hh hvs F1 N2 rfl rfl (.tail _ mD) ?ne ?step0 ?stepS ?done
  case ne =>
    intro p hp
    rcases List.mem_cons.mp hp with rfl | hp
    · exact ⟨Ne.symm hdis.2.1, Ne.symm hdis.2.2⟩
    · exact ⟨(hne p hp).1, (hne p hp).2.1⟩
  case step0 =>
    rintro k t tx m₁ s₁ its k' n' r' ⟨h9, tk9, rfl⟩ hx1 hsz hr' hsub hs1 hk1 F9 N9
    rw [two_back (x := Str.ofString "table") (y := Str.ofString "steps") m₁, hs1, hk1] at F9
    have mc' := hsub _ (.tail _ mc)
    clear F1 N2
    k_steps
    (with_reducible rename IsRange _ _ _ _ _ _ _ _ => hR)
    (with_reducible rename Fr g' _ _ _ => F3); (with_reducible rename News g' _ _ _ => N3)
    refine' rng_iter (k := 1) ?rR ?rkz ?rk ?rH ?rF ?rN (RJ0 tb D l gn k tx its k' n' r') ?rh0 ?rstep ?rdone
    case rR => exact hR
    case rkz => decide
    case rk => decide
    case rH => exact hh
    case rF => exact F3
    case rN => exact N3
    case rh0 => exact ⟨rfl, rfl, rfl, fun _ => rfl, fun e => by omega⟩
    case rstep =>
      rintro j ti m₂ news₂ s₂ I oI ⟨h8, tk8, rfl⟩ hj ⟨ht, hst, hkd, h0, h1⟩ hI hIs F4 N4
      have hj0 : j = 0 := by omega
      subst hj0
      obtain rfl := h0 rfl
      rw [two_back (x := Str.ofString "table") (y := Str.ofString "steps") m₂, ht, hst] at F4
      rw [one_back (x := Str.ofString "kind") m₂, hkd] at F4
      have mc9 : (L' + 1, ocl) ∈ (I, oI) :: (l, listOf [].toArray k') :: (gn, listOf its n') :: r' := .tail _ (.tail _ (.tail _ mc'))
      clear F3 N3
      k_steps
      (with_reducible rename Fr g' _ _ _ => F5); (with_reducible rename News g' _ _ _ => N5)
      have hIl := hI _ (.head _)
      have hIg := hI _ (.tail _ (.head _))
      have HX : Lex w ((l, listOf [].toArray k') :: (I, oI) :: r') _ _ _ _ _ _ _ _ _ _ _ _ := hlex.mono fun p hp => .tail _ (.tail _ (hsub _ (.tail _ hp)))
      have hrr : ∀ p ∈ (I, oI) :: r', p.1 ≠ l ∧ p.1 ≠ gn := fun p hp => by
        rcases List.mem_cons.mp hp with rfl | hp
        · exact ⟨Ne.symm hIl, Ne.symm hIg⟩
        · exact hr' p hp
      have hI3 : ∀ (v1 v2 : Obj), ∀ p ∈ (l, v1) :: (gn, v2) :: r', p.1 ≠ I := fun v1 v2 p hp => by
        rcases List.mem_cons.mp hp with rfl | hp
        · exact hIl
        · rcases List.mem_cons.mp hp with rfl | hp
          · exact hIg
          · exact hI p (.tail _ (.tail _ hp))
      refine wpAny_call ?_
      rcases hks k (List.mem_of_getElem? hx1) with rfl | rfl
      · refine grownR0_spec (kk := kk - 1) HX hsz hrr hdis.1 (.tail _ (hsub _ (.tail _ m1))) (.tail _ (hsub _ (.tail _ m2))) (by omega) (by walk_at "m_cx") F5 (perm1 N5) ?_
        intro h7 tk7 k7 its7 n7 t1 t2 t3 t4 t5 t6 F7 N7
        clear N5 F5 F4 N4
        k_steps
        exact RNext.mk F7 (perm2 N7) (hI3 _ _) ⟨rfl, rfl, rfl, fun e => absurd e (by decide), fun _ => ⟨_, _, _, _, qA0 t1 t2 t3 t4 t5 t6, rfl⟩⟩
      · refine grownR1_spec (kk := kk - 1) HX hsz hrr hdis.1 (.tail _ (hsub _ (.tail _ m1))) (.tail _ (hsub _ (.tail _ m2))) (by omega) (by walk_at "m_cx") F5 (perm1 N5) ?_
        intro h7 tk7 k7 its7 n7 t1 t2 t3 t4 t5 t6 F7 N7
        clear N5 F5 F4 N4
        k_steps
        exact RNext.mk F7 (perm2 N7) (hI3 _ _) ⟨rfl, rfl, rfl, fun e => absurd e (by decide), fun _ => ⟨_, _, _, _, qA1 t1 t2 t3 t4 t5 t6, rfl⟩⟩
    case rdone =>
      rintro h8 tk8 m₂ news₂ F4 N4 ⟨ht, hst, hkd, h0, h1⟩
      obtain ⟨vs, k7, its7, n7, hq, rfl⟩ := h1 rfl
      clear F3 N3
      k_steps
      exact OPost.mk F4 ht hst hq N4
  case stepS =>
    rintro i k t tx m₁ s₁ vs its k' n' r' ⟨h9, tk9, rfl⟩ hi0 hil hx1 hq hr' hsub hs1 hk1 F9 N9
    have hql := queueTo_len i (ks.take i) (by rw [List.length_take]; omega)
    have hi4 : i < 4 := by omega
    have hokq := hok i hil
    rw [two_back (x := Str.ofString "table") (y := Str.ofString "steps") m₁, hs1, hk1] at F9
    have mc' := hsub _ (.tail _ mc)
    clear F1 N2
    generalize hQ : queueTo (ks.take i) = q at hq hql hokq ⊢
    k_steps
    (with_reducible rename IsRange _ _ _ _ _ _ _ _ => hR)
    (with_reducible rename Fr g' _ _ _ => F3); (with_reducible rename News g' _ _ _ => N3)
    refine' rng_iter (k := 2 ^ i) ?rR ?rkz ?rk ?rH ?rF ?rN (RJS tb D l q k tx ((gn, listOf its n') :: r')) ?rh0 ?rstep ?rdone
    case rR => exact hR
    case rkz => simp
    case rk => have := Nat.pow_le_pow_right (n := 2) (by decide) (Nat.le_of_lt hi4); omega
    case rH => exact hh
    case rF => exact F3
    case rN => exact N3
    case rh0 => exact ⟨rfl, rfl, rfl, vs, k', by simpa using hq, rfl⟩
    case rstep =>
      rintro j ti m₂ news₂ s₂ I oI ⟨h8, tk8, rfl⟩ hj ⟨ht, hst, hkd, vs2, k2, hq2, rfl⟩ hI hIs F4 N4
      rw [two_back (x := Str.ofString "table") (y := Str.ofString "steps") m₂, ht, hst] at F4
      rw [one_back (x := Str.ofString "kind") m₂, hkd] at F4
      have hjq : j < q.length := by omega
      have hqd : q.drop j = q[j] :: q.drop (j + 1) := List.drop_eq_getElem_cons hjq
      have hokt := hokq _ (List.getElem_mem hjq)
      have hqt : q.take (j + 1) = q.take j ++ [q[j]] := by rw [List.take_add_one, List.getElem?_eq_getElem hjq]; rfl
      rw [hqd] at hq2
      obtain ⟨ta2, tb2, tn2, r2, rfl, hq2⟩ := hq2
      replace hq2 : QIs r2 (q.drop (j + 1) ++ (q.take j).flatMap (grow1 k)) := hq2
      have hr2 : r2.length ≤ 900 := by
        rw [hq2.length, List.length_append, flat2_len, List.length_drop, List.length_take]
        have := Nat.pow_le_pow_right (n := 2) (by decide) (Nat.le_of_lt hi4)
        omega
      have mc9 : (L' + 1, ocl) ∈ (I, oI) :: (l, listOf (Value.str q[j].1 ta2 :: Value.str q[j].2.1 tb2 :: Value.str (nstr q[j].2.2) tn2 :: r2).toArray k2) :: (gn, listOf its n') :: r' := .tail _ (.tail _ (.tail _ mc'))
      have hIl := hI _ (.head _)
      have hI3 : ∀ (v1 : Obj), ∀ p ∈ (l, v1) :: (gn, listOf its n') :: r', p.1 ≠ I := fun v1 p hp => by
        rcases List.mem_cons.mp hp with rfl | hp
        · exact hIl
        · exact hI p (.tail _ hp)
      have hrr : ∀ p ∈ (I, oI) :: (gn, listOf its n') :: r', p.1 ≠ l := fun p hp => by
        rcases List.mem_cons.mp hp with rfl | hp
        · exact Ne.symm hIl
        · rcases List.mem_cons.mp hp with rfl | hp
          · exact Ne.symm hdis.1
          · exact (hr' p hp).1
      have HL : LineAt ((I, oI) :: (gn, listOf its n') :: r') x d l _ 4 := ⟨.tail _ (.tail _ (hsub _ (.tail _ m1))), .tail _ (.tail _ (hsub _ (.tail _ m2))), hlex.g1, hlex.g2, hlex.g3⟩
      simp only [okT, decide_eq_true_eq] at hokt
      obtain ⟨z1, z2, z3, z4, z5, z6, z7, z8⟩ := hokt
      clear F3 N3
      k_steps
      (with_reducible rename Fr g' _ _ _ => F5); (with_reducible rename News g' _ _ _ => N5)
      refine wpAny_call ?_
      rcases hks k (List.mem_of_getElem? hx1) with rfl | rfl
      · refine grown0_spec (kk := kk - 1) z1 z2 z5 z6 z3 z4 hr2 hrr HL (by omega) (by walk_at "m_cx") F5 (swap2 N5) ?_
        intro h7 tk7 k7 t1 t2 t3 t4 t5 t6 F7 N7
        clear N5 F5 F4 N4
        k_steps
        refine RNext.mk F7 (swap2 N7) (hI3 _) ⟨rfl, rfl, rfl, _, _, ?_, rfl⟩
        rw [hqt, List.flatMap_append, ← List.append_assoc]
        exact QIs.append hq2 ⟨t1, t2, t3, _, rfl, t4, t5, t6, _, rfl, rfl⟩
      · refine grown1_spec (kk := kk - 1) z1 z2 z7 z8 z3 z4 hr2 hrr HL (by omega) (by walk_at "m_cx") F5 (swap2 N5) ?_
        intro h7 tk7 k7 t1 t2 t3 t4 t5 t6 F7 N7
        clear N5 F5 F4 N4
        k_steps
        refine RNext.mk F7 (swap2 N7) (hI3 _) ⟨rfl, rfl, rfl, _, _, ?_, rfl⟩
        rw [hqt, List.flatMap_append, ← List.append_assoc]
        exact QIs.append hq2 ⟨t1, t2, t3, _, rfl, t4, t5, t6, _, rfl, rfl⟩
    case rdone =>
      rintro h8 tk8 m₂ news₂ F4 N4 ⟨ht, hst, hkd, vs2, k2, hq2, rfl⟩
      rw [← hql, List.drop_length, List.take_length, List.nil_append] at hq2
      clear F3 N3
      k_steps
      exact OPost.mk F4 ht hst hq2 N4
  case done =>
    intro h9 tk9 m₁ vs its k' n' F9 hs1 hk1 hq N9
    rw [two_back (x := Str.ofString "table") (y := Str.ofString "steps") m₁, hs1, hk1] at F9
    replace hq := hq (by omega)
    have hvl := hvs.length
    have mD9 : (D, listOf vs0.toArray n0) ∈ (l, listOf vs.toArray k') :: (gn, listOf its n') :: (hl, listOf [].toArray 0) :: bs := .tail _ (.tail _ (.tail _ mD))
    have hsz9 : ((vs0.toArray.size : Nat) : Int) = (ks.length : Int) := by rw [List.size_toArray, hvl]
    clear F1 N2
    k_steps
    refine' kun_lenL (k := (ks.length : Int)) ?l ?sz ?z ?_
    case l => exact News.isList N9 mD9
    case sz => exact hsz9
    case z => omega
    k_steps
    (with_reducible rename IsRange _ _ _ _ _ _ _ _ => hR)
    (with_reducible rename Fr g' _ _ _ => F3); (with_reducible rename News g' _ _ _ => N3)
    have hql := queueTo_len ks.length ks rfl
    generalize queueTo ks = q at hq htab hql
    have h16 : 2 ^ ks.length ≤ 16 := by rcases hlen with e | e <;> rw [e] <;> decide
    refine' rng_iter (k := 2 ^ ks.length) ?rR ?rkz ?rk ?rH ?rF ?rN (RJT tb l hl q news ((gn, listOf its n') :: bs)) ?rh0 ?rstep ?rdone
    case rR => exact hR
    case rkz => simp
    case rk => omega
    case rH => exact hh
    case rF => exact F3
    case rN => exact swap12 N3
    case rh0 => exact ⟨rfl, vs, k', [], 0, [], by simpa using hq, rfl, fun _ h => absurd h List.not_mem_nil, fun _ h => absurd h List.not_mem_nil, rfl⟩
    case rstep =>
      rintro j ti m₂ news₂ s₂ I oI ⟨h8, tk8, rfl⟩ hj ⟨ht, vs2, k2, ps, n2, tups, hq2, hfold, hps, htups, rfl⟩ hI hIs F4 N4
      rw [one_back (x := Str.ofString "table") m₂, ht] at F4
      have hjq : j < q.length := by omega
      have hqd : q.drop j = q[j] :: q.drop (j + 1) := List.drop_eq_getElem_cons hjq
      have hqt : q.take (j + 1) = q.take j ++ [q[j]] := by rw [List.take_add_one, List.getElem?_eq_getElem hjq]; rfl
      rw [hqd] at hq2
      generalize q[j] = tr at hqd hqt hq2
      obtain ⟨a, b, nn⟩ := tr
      obtain ⟨ta2, tb2, tn2, r2, rfl, hq2⟩ := hq2
      replace hq2 : QIs r2 (q.drop (j + 1)) := hq2
      have hr2 : r2.length ≤ 900 := by
        rw [hq2.length, List.length_drop]; omega
      have hs : (q.take (j + 1)).foldl tabStep (some []) = tabStep (some (ps.map fun p => (p.k, p.v))) (a, b, nn) := by rw [hqt, List.foldl_append, hfold]; rfl
      obtain ⟨ps', hps'⟩ := tab_at (q := q.drop (j + 1)) (o := (q.take (j + 1)).foldl tabStep (some [])) (tab := tab) (by rw [← List.foldl_append, List.take_append_drop]; exact htab)
      have hs9 := hs
      rw [hs] at hps'
      obtain ⟨⟨ok1, ok2, ok3⟩, ⟨b1, b2, b3, b4, b5, b6⟩, hcase⟩ := tab_step hps'
      rw [find_kv] at hcase
      have hIl := hI _ (.head _)
      have hIh := hI _ (.tail _ (.head _))
      have hIR : ∀ p ∈ tups ++ (gn, listOf its n') :: bs, p.1 ≠ I := fun p hp => hI p (.tail _ (.tail _ hp))
      obtain ⟨RR, hRR, hRl, hRh, mR1, mR2, mcR, mtR, mdR, mpR, N5⟩ : ∃ RR, RR = (I, oI) :: (tups ++ (gn, listOf its n') :: bs) ∧ (∀ p ∈ RR, p.1 ≠ l) ∧ (∀ p ∈ RR, p.1 ≠ hl) ∧ (x, instObj 90 d) ∈ RR ∧ (d, _) ∈ RR ∧ (L' + 1, ocl) ∈ RR ∧ (tb, instObj 227 dtb) ∈ RR ∧ (dtb, _) ∈ RR ∧ (∀ p ∈ ps, (p.a, tupO [.str p.k p.kt, .str p.v p.vt]) ∈ RR) ∧ News g' L' h8 ((l, listOf (Value.str a ta2 :: Value.str b tb2 :: Value.str (nstr nn) tn2 :: r2).toArray k2) :: (hl, listOf (ps.map fun p => Value.ref p.a).toArray n2) :: RR) := by
        refine ⟨_, rfl, ?_, ?_, ?_, ?_, ?_, ?_, ?_, ?_, perm3 N4⟩
        · intro p hp
          simp only [List.mem_cons, List.mem_append] at hp
          rcases hp with rfl | hp | rfl | hp
          · exact Ne.symm hIl
          · exact (htups p hp).1
          · exact Ne.symm hdis.1
          · exact (hne p hp).1
        · intro p hp
          simp only [List.mem_cons, List.mem_append] at hp
          rcases hp with rfl | hp | rfl | hp
          · exact Ne.symm hIh
          · exact (htups p hp).2.1
          · exact hdis.2.2
          · exact (hne p hp).2.2
        · exact .tail _ (List.mem_append_right _ (.tail _ m1))
        · exact .tail _ (List.mem_append_right _ (.tail _ m2))
        · exact .tail _ (List.mem_append_right _ (.tail _ mc))
        · exact .tail _ (List.mem_append_right _ (.tail _ mt))
        · exact .tail _ (List.mem_append_right _ (.tail _ mdt))
        · exact fun p hp => .tail _ (List.mem_append_left _ (hps p hp))
      have hfin : (q.take (j + 1)).foldl tabStep (some []) = some ps' := hs9.trans hps'
      have hnb : ∀ p ∈ news, p ∈ RR := fun p hp => by rw [hRR, hcut]; exact .tail _ (List.mem_append_right _ (.tail _ (List.mem_append_right _ hp)))
      have H0 : HdrAt ((hl, listOf (ps.map fun p => Value.ref p.a).toArray n2) :: RR) tb dtb hl ps n2 (hdrD w.params hl thd) 1 := ⟨.tail _ mtR, .tail _ mdR, rfl, .head _, fun p hp => .tail _ (mpR p hp), rfl, rfl, rfl, rfl⟩
      have hg1 := hlex.g1
      have hg2 := hlex.g2
      have hlhl := hdis.2.1
      have hRl2 : ∀ p ∈ (hl, listOf (ps.map fun p => Value.ref p.a).toArray n2) :: RR, p.1 ≠ l := fun p hp => by
        rcases List.mem_cons.mp hp with rfl | hp
        · exact Ne.symm hlhl
        · exact hRl p hp
      have c1 : okText (Txt.lower (a ++ Str.ofString "." ++ b)) = true := ok1
      have c2 : okText (a ++ Str.ofString "." ++ b) = true := ok2
      have c3 : okText (nstr nn) = true := ok3
      have c4 : a.length ≤ 1000 := b1
      have c5 : b.length ≤ 1000 := b2
      have c6 : (a ++ Str.ofString "." ++ b).length ≤ 100000 := Nat.le_trans b3 (by decide)
      have c7 : (nstr nn).length ≤ 100000 := Nat.le_trans b4 (by decide)
      have c8 : ps.length ≤ 1000 := by rw [List.length_map] at b5; omega
      have c9 : ∀ p ∈ ps, p.k.length ≤ 100000 := fun p hp => Nat.le_trans (b6 (p.k, p.v) (List.mem_map.mpr ⟨p, hp, rfl⟩)) (by decide)
      have hI3 : ∀ (v1 v2 : Obj) (tp : List (Addr × Obj)), (∀ p ∈ tp, p.1 ≠ I) → ∀ p ∈ (l, v1) :: (hl, v2) :: (tp ++ (tups ++ (gn, listOf its n') :: bs)), p.1 ≠ I := fun v1 v2 tp htp p hp => by
        simp only [List.mem_cons, List.mem_append] at hp
        rcases hp with rfl | rfl | hp | hp
        · exact hIl
        · exact hIh
        · exact htp p hp
        · exact hIR p (by simpa using hp)
      clear ok1 ok2 ok3 b1 b2 b3 b4 b5 b6 F3 N3 N4 hq h hok hks hvs hvl hsz9 mD9 mD hR hIs hs hs9 htab hps' hfold hqd hqt hC hC' hr m1 m2 mc mt mdt hlex hne hdis hcut hap hap3 FG' F N hI hIR hIl hIh
      k_steps
      (with_reducible rename Fr g' _ _ _ => F5); (with_reducible rename News g' _ _ _ => N5)
      refine wpAny_call ?_
      rcases hcase with ⟨hf, rfl⟩ | ⟨p, hf, hpv, rfl⟩
      · have hf0 : ps.find? (fun p => Txt.lower p.k == Txt.lower (a ++ Str.ofString "." ++ b)) = none := Option.map_eq_none_iff.mp hf
        have hne : (nstr nn != nstr nn) = false := by simp
        refine' hdef_none (kk := kk - 1) c1 c2 c3 c6 c7 c9 c8 (by omega) ?mcx F5 N5 (H0.mono ?sub) hf0 ?U ?_
        case mcx => walk_at "m_cx"
        case sub => walk_at "m_sub"
        case U => intro a9; k_upd
        intro h7 tk7 a9 hlt9 F7 N7
        clear F5 N5
        k_steps
        (with_reducible rename Fr g' _ _ _ => F8); (with_reducible rename News g' _ _ _ => N8)
        rw [hRR] at N8
        have hla : ∀ p ∈ RR, p.1 < a9 := fun p hp => hlt9 p (.tail _ (.tail _ (.tail _ (.tail _ hp))))
        have hll : l < a9 := hlt9 _ (.tail _ (.tail _ (.head _)))
        have hlh : hl < a9 := hlt9 _ (.tail _ (.tail _ (.tail _ (.head _))))
        have hIa : I < a9 := hla (I, oI) (by rw [hRR]; exact .head _)
        refine RNext.mk F8 (tab_add N8) (hI3 _ _ [_] fun p hp => ?_) ⟨rfl, r2, _, _, _, _ :: tups, hq2, ?_, ?_, ?_, rfl⟩
        · rw [List.mem_singleton.mp hp]
          exact Nat.ne_of_gt hIa
        · rw [hfin, List.map_append]; rfl
        · intro p hp
          rcases List.mem_append.mp hp with hp | hp
          · exact .tail _ (hps p hp)
          · rw [List.mem_singleton.mp hp]; exact .head _
        · intro p hp
          rcases List.mem_cons.mp hp with rfl | hp
          · exact ⟨Nat.ne_of_gt hll, Nat.ne_of_gt hlh, fun q hq => Nat.ne_of_gt (hla q (hnb q hq))⟩
          · exact htups p hp
      · obtain ⟨p0, hf0, rfl⟩ := Option.map_eq_some_iff.mp hf
        replace hf0 : ps.find? (fun p => Txt.lower p.k == Txt.lower (a ++ Str.ofString "." ++ b)) = some p0 := hf0
        replace hpv : p0.v = nstr nn := hpv
        have hne : (p0.v != nstr nn) = false := by rw [hpv]; simp
        refine' hdef_some (kk := kk - 1) c1 c6 c9 c8 (by omega) ?mcx F5 N5 (H0.mono ?sub) hf0 ?_
        case mcx => walk_at "m_cx"
        case sub => walk_at "m_sub"
        intro h7 tk7 F7 N7
        clear F5 N5
        k_steps
        (with_reducible rename Fr g' _ _ _ => F8); (with_reducible rename News g' _ _ _ => N8)
        rw [hRR] at N8
        exact RNext.mk F8 (perm2 (news_tl (news_tl N8))) (hI3 _ _ [] fun p hp => absurd hp List.not_mem_nil) ⟨rfl, r2, _, ps, n2, tups, hq2, hfin, hps, htups, rfl⟩
    case rdone =>
      rintro h8 tk8 m₂ news₂ F4 N4 ⟨ht, vs2, k2, ps, n2, tups, hq2, hfold, hps, htups, rfl⟩
      rw [one_back (x := Str.ofString "table") m₂, ht] at F4
      rw [List.take_of_length_le (Nat.le_of_eq hql), htab] at hfold
      clear F3 N3
      k_steps
      (with_reducible rename Fr h₀ L _ _ => F8); (with_reducible rename News h₀ L _ _ => N8)
      refine h _ _ tb dtb hl ps n2 (hdrD w.params hl thd) 1 ((l, listOf vs2.toArray k2) :: (hl, listOf (ps.map fun p => Value.ref p.a).toArray n2) :: (tups ++ (gn, listOf its n') :: own)) F8 (fun p hp => N8 p ?_) ?_ ⟨?_, ?_, rfl, .tail _ (.head _), fun p hp => ?_, rfl, rfl, rfl, rfl⟩ (Option.some.inj hfold).symm ⟨q254, .tail _ (.tail _ (List.mem_append_right _ (.tail _ m254)))⟩
      · rw [hcut]
        simp only [List.mem_append, List.mem_cons] at hp ⊢
        rcases hp with h | h | h | h | h | h <;> simp [h]
      · intro p hp q hq
        simp only [List.mem_append, List.mem_cons] at hp
        rcases hp with rfl | rfl | hp | rfl | hp
        · exact (hap3 q hq).1
        · exact (hap3 q hq).2.2
        · exact (htups p hp).2.2 q hq
        · exact (hap3 q hq).2.1
        · exact hap p hp q hq
      · exact .tail _ (.tail _ (List.mem_append_right _ (.tail _ mo1)))
      · exact .tail _ (.tail _ (List.mem_append_right _ (.tail _ mo2)))
      · exact .tail _ (.tail _ (List.mem_append_left _ (hps p hp)))
end

end Mine

theorem Mine.rs_pur : True ∧ True := by
  w_top off
  try (walk1; fail)
  exact ⟨True.intro, True.intro⟩

namespace Mine
-- needs: pre tok re loop hdr tabp
/-- A sign of the names: & a m p ; and the full stop. -/
noncomputable def okC (c : Nat) : Bool := Nat.beq c 38 || Nat.beq c 97 || Nat.beq c 109 || Nat.beq c 112 || Nat.beq c 59 || Nat.beq c 46
noncomputable def okS (x : Str) : Bool := x.cps.toList.all okC
theorem okC_cases {c : Nat} (h : okC c = true) : c = 38 ∨ c = 97 ∨ c = 109 ∨ c = 112 ∨ c = 59 ∨ c = 46 := by
  unfold okC at h
  simp only [Bool.or_eq_true, Nat.beq_eq] at h
  omega
theorem lowerOf_ok {c : Nat} (h : okC c = true) : Unicode.lowerOf c = [c] := by
  rcases okC_cases h with rfl | rfl | rfl | rfl | rfl | rfl <;> decide +kernel
theorem okChar_ok {c : Nat} (h : okC c = true) : okChar c = true := by
  rcases okC_cases h with rfl | rfl | rfl | rfl | rfl | rfl <;> decide +kernel
theorem placed_same {x : Str} {f : Nat → Nat → List Nat} (h : ∀ i c, x.cps[i]? = some c → f i c = [c]) : placed x f = x.cps := by
  unfold placed
  have e : (x.cps.mapIdx fun i c => (f i c).toArray) = x.cps.map fun c => #[c] := by
    apply Array.ext
    · simp
    · intro i h1 h2
      simp only [Array.getElem_mapIdx, Array.getElem_map]
      have h3 : i < x.cps.size := by simpa using h2
      rw [h i (x.cps[i]'h3) (by simp [h3])]
  rw [e]
  apply Array.toList_inj.mp
  simp only [Array.toList_flatten, Array.toList_map, List.map_map]
  have : ∀ l : List Nat, (l.map (Array.toList ∘ fun c => #[c])).flatten = l := fun l => by
    induction l with
    | nil => rfl
    | cons c l ih => rw [List.map_cons, List.flatten_cons, ih]; rfl
  exact this _
theorem lower_ok {x : Str} (h : okS x = true) : Txt.lower x = x := by
  have e : placed x (fun i _ => Unicode.lowerAt x.cps i) = x.cps := placed_same fun i c hc => by
    have hm : okC c = true := List.all_eq_true.mp h c (by simpa using Array.mem_of_getElem? hc)
    unfold Unicode.lowerAt
    rw [hc]
    have h3 : (c == 0x3A3) = false := by rcases okC_cases hm with rfl | rfl | rfl | rfl | rfl | rfl <;> rfl
    simp only [h3, Bool.false_and, Bool.false_eq_true, if_false]
    exact lowerOf_ok hm
  unfold Txt.lower
  rw [e]
theorem text_ok {x : Str} (h : okS x = true) : okText x = true := List.all_eq_true.mpr fun c hc => okChar_ok (List.all_eq_true.mp h c hc)
noncomputable def eqL : List Nat → List Nat → Bool
  | [], [] => true
  | a :: l, b :: r => Nat.beq a b && eqL l r
  | _, _ => false
theorem eqL_iff : ∀ {a b : List Nat}, eqL a b = true ↔ a = b
  | [], [] => by simp [eqL]
  | [], _ :: _ => by simp [eqL]
  | _ :: _, [] => by simp [eqL]
  | a :: l, b :: r => by rw [eqL, Bool.and_eq_true, Nat.beq_eq, eqL_iff, List.cons.injEq]
noncomputable def eqS (x y : Str) : Bool := eqL x.cps.toList y.cps.toList
theorem eqS_iff {x y : Str} : eqS x y = true ↔ x = y := by
  unfold eqS
  rw [eqL_iff]
  constructor
  · intro h
    cases x; cases y
    simp only [Str.mk.injEq]
    exact Array.toList_inj.mp h
  · rintro rfl; rfl
noncomputable def eqQ : List Trip → List Trip → Bool
  | [], [] => true
  | a :: l, b :: r => eqS a.1 b.1 && eqS a.2.1 b.2.1 && decide (a.2.2 = b.2.2) && eqQ l r
  | _, _ => false
theorem eqQ_eq : ∀ {a b : List Trip}, eqQ a b = true → a = b
  | [], [], _ => rfl
  | [], _ :: _, h => by simp [eqQ] at h
  | _ :: _, [], h => by simp [eqQ] at h
  | (a, b, n) :: l, (a', b', n') :: r, h => by
    simp only [eqQ, Bool.and_eq_true, decide_eq_true_eq] at h
    obtain ⟨⟨⟨h1, h2⟩, h3⟩, h4⟩ := h
    rw [eqS_iff.mp h1, eqS_iff.mp h2, h3, eqQ_eq h4]
noncomputable def eqP : List (Str × Str) → List (Str × Str) → Bool
  | [], [] => true
  | a :: l, b :: r => eqS a.1 b.1 && eqS a.2 b.2 && eqP l r
  | _, _ => false
theorem eqP_eq : ∀ {a b : List (Str × Str)}, eqP a b = true → a = b
  | [], [], _ => rfl
  | [], _ :: _, h => by simp [eqP] at h
  | _ :: _, [], h => by simp [eqP] at h
  | (a, b) :: l, (a', b') :: r, h => by
    simp only [eqP, Bool.and_eq_true] at h
    obtain ⟨⟨h1, h2⟩, h4⟩ := h
    rw [eqS_iff.mp h1, eqS_iff.mp h2, eqP_eq h4]
noncomputable def tf (o : Option (List (Str × Str))) (y : Str × Str) : Option (List (Str × Str)) := match o with
  | none => none
  | some ps => if (okS y.1 && okText y.2 && Nat.ble y.1.cps.size 10000 && Nat.ble y.2.cps.size 1000 && Nat.ble ps.length 900) = true then
      match ps.find? (fun p => eqS p.1 y.1) with
      | none => some (ps ++ [y])
      | some p => if eqS p.2 y.2 = true then some ps else none
    else none
theorem tf_none : ∀ q : List (Str × Str), q.foldl tf none = none
  | [] => rfl
  | _ :: q => tf_none q
theorem find_same {ps : List (Str × Str)} {x : Str} (hx : okS x = true) (hp : ∀ p ∈ ps, okS p.1 = true ∧ p.1.length ≤ 10000) : ps.find? (fun p => Txt.lower p.1 == Txt.lower x) = ps.find? (fun p => eqS p.1 x) := by
  induction ps with
  | nil => rfl
  | cons p ps ih =>
    have e : (p.1 == x) = eqS p.1 x := by
      rw [Bool.eq_iff_iff, eqS_iff, beq_iff_eq]
    rw [List.find?_cons, List.find?_cons, lower_ok hx, lower_ok (hp p (.head _)).1, ← ih fun q hq => hp q (.tail _ hq), lower_ok hx, e]
noncomputable abbrev nmOf (t : Trip) : Str × Str := (nameOf t, nstr t.2.2)
theorem tf_step {ps ps' : List (Str × Str)} {t : Trip} (ht : t.1.length ≤ 1000 ∧ t.2.1.length ≤ 1000) (hp : ∀ p ∈ ps, okS p.1 = true ∧ p.1.length ≤ 10000) (h : tf (some ps) (nmOf t) = some ps') : tabStep (some ps) t = some ps' ∧ ∀ p ∈ ps', okS p.1 = true ∧ p.1.length ≤ 10000 := by
  unfold tf at h
  dsimp only at h
  split at h
  · rename_i hc
    simp only [Bool.and_eq_true, Nat.ble_eq] at hc
    obtain ⟨⟨⟨⟨h1, h2⟩, h5⟩, h6⟩, h7⟩ := hc
    have hc' : (okText (Txt.lower (nameOf t)) && okText (nameOf t) && okText (nstr t.2.2) && decide (t.1.length ≤ 1000 ∧ t.2.1.length ≤ 1000 ∧ (nameOf t).length ≤ 10000 ∧ (nstr t.2.2).length ≤ 1000 ∧ ps.length ≤ 900 ∧ ∀ p ∈ ps, p.1.length ≤ 10000)) = true := by
      simp only [Bool.and_eq_true, decide_eq_true_eq]
      exact ⟨⟨⟨by rw [lower_ok h1]; exact text_ok h1, text_ok h1⟩, h2⟩, ht.1, ht.2, h5, h6, h7, fun p hq => (hp p hq).2⟩
    unfold tabStep
    dsimp only
    rw [if_pos hc', find_same h1 hp]
    split at h
    · rename_i hf
      try rw [hf]
      refine ⟨h, ?_⟩
      rw [← Option.some.inj h]
      intro p hq
      rcases List.mem_append.mp hq with hq | hq
      · exact hp p hq
      · rw [List.mem_singleton.mp hq]; exact ⟨h1, h5⟩
    · rename_i p hf
      try rw [hf]
      try dsimp only
      split at h
      · rename_i he
        try rw [if_pos (eqS_iff.mp he)]
        refine ⟨h, ?_⟩
        rw [← Option.some.inj h]
        exact hp
      · cases h
  · cases h
theorem tf_fold : ∀ (q : List Trip) (ps : List (Str × Str)) (tab : List (Str × Str)), (∀ t ∈ q, t.1.length ≤ 1000 ∧ t.2.1.length ≤ 1000) → (∀ p ∈ ps, okS p.1 = true ∧ p.1.length ≤ 10000) → (q.map nmOf).foldl tf (some ps) = some tab → q.foldl tabStep (some ps) = some tab ∧ ∀ p ∈ tab, okS p.1 = true ∧ p.1.length ≤ 10000
  | [], ps, tab, _, hp, h => by cases h; exact ⟨rfl, hp⟩
  | t :: q, ps, tab, hq, hp, h => by
    rw [List.map_cons, List.foldl_cons] at h
    rw [List.foldl_cons]
    cases e : tf (some ps) (nmOf t) with
    | none => rw [e, tf_none] at h; cases h
    | some ps' =>
      obtain ⟨e1, h1⟩ := tf_step (hq t (.head _)) hp e
      rw [e] at h
      rw [e1]
      exact tf_fold q ps' tab (fun x hx => hq x (.tail _ hx)) h1 h

end Mine

theorem Mine.rs_pur2 : True ∧ True := by
  w_top off
  try (walk1; fail)
  exact ⟨True.intro, True.intro⟩

namespace Mine
-- needs: pre tok re loop hdr esc wri tabp pur
noncomputable def W (l : List Nat) : Str := ⟨l.toArray⟩
noncomputable def Qs : List Trip := [(W [38], W [97,109,112,59], 0)]
theorem eQs : queueTo [] = Qs := by decide +kernel
theorem kQs : ∀ t ∈ Qs, okT t = true := by decide +kernel
noncomputable def Qs0 : List Trip := [(W [97,109,112,59,38], W [97,109,112,59], 0), (W [38,97,109,112,59], W [97,109,112,59], 1)]
theorem eQs0 : queueTo [0] = Qs0 := by
  rw [show ([0] : List Int) = [] ++ [0] from rfl, queueTo_snoc, eQs]
  exact eqQ_eq (by decide +kernel)
theorem kQs0 : ∀ t ∈ Qs0, okT t = true := by decide +kernel
noncomputable def Qs1 : List Trip := [(W [38], W [38,97,109,112,59], 0), (W [38], W [97,109,112,59,38], 1)]
theorem eQs1 : queueTo [1] = Qs1 := by
  rw [show ([1] : List Int) = [] ++ [1] from rfl, queueTo_snoc, eQs]
  exact eqQ_eq (by decide +kernel)
theorem kQs1 : ∀ t ∈ Qs1, okT t = true := by decide +kernel
noncomputable def Qs00 : List Trip := [(W [97,109,112,59,97,109,112,59,38], W [97,109,112,59], 0), (W [97,109,112,59,38,97,109,112,59], W [97,109,112,59], 1), (W [97,109,112,59,38,97,109,112,59], W [97,109,112,59], 1), (W [38,97,109,112,59,97,109,112,59], W [97,109,112,59], 2)]
theorem eQs00 : queueTo [0, 0] = Qs00 := by
  rw [show ([0, 0] : List Int) = [0] ++ [0] from rfl, queueTo_snoc, eQs0]
  exact eqQ_eq (by decide +kernel)
theorem kQs00 : ∀ t ∈ Qs00, okT t = true := by decide +kernel
noncomputable def Qs01 : List Trip := [(W [97,109,112,59,38], W [97,109,112,59,38,97,109,112,59], 0), (W [97,109,112,59,38], W [97,109,112,59,97,109,112,59,38], 2), (W [38,97,109,112,59], W [38,97,109,112,59,97,109,112,59], 1), (W [38,97,109,112,59], W [97,109,112,59,38,97,109,112,59], 3)]
theorem eQs01 : queueTo [0, 1] = Qs01 := by
  rw [show ([0, 1] : List Int) = [0] ++ [1] from rfl, queueTo_snoc, eQs0]
  exact eqQ_eq (by decide +kernel)
theorem kQs01 : ∀ t ∈ Qs01, okT t = true := by decide +kernel
noncomputable def Qs10 : List Trip := [(W [38,97,109,112,59,38], W [38,97,109,112,59], 0), (W [38,38,97,109,112,59], W [38,97,109,112,59], 2), (W [97,109,112,59,38,38], W [97,109,112,59,38], 1), (W [38,97,109,112,59,38], W [97,109,112,59,38], 3)]
theorem eQs10 : queueTo [1, 0] = Qs10 := by
  rw [show ([1, 0] : List Int) = [1] ++ [0] from rfl, queueTo_snoc, eQs1]
  exact eqQ_eq (by decide +kernel)
theorem kQs10 : ∀ t ∈ Qs10, okT t = true := by decide +kernel
noncomputable def Qs11 : List Trip := [(W [38], W [38,38,97,109,112,59], 0), (W [38], W [38,97,109,112,59,38], 1), (W [38], W [38,97,109,112,59,38], 1), (W [38], W [97,109,112,59,38,38], 2)]
theorem eQs11 : queueTo [1, 1] = Qs11 := by
  rw [show ([1, 1] : List Int) = [1] ++ [1] from rfl, queueTo_snoc, eQs1]
  exact eqQ_eq (by decide +kernel)
theorem kQs11 : ∀ t ∈ Qs11, okT t = true := by decide +kernel
noncomputable def Qs000 : List Trip := [(W [97,109,112,59,97,109,112,59,97,109,112,59,38], W [97,109,112,59], 0), (W [97,109,112,59,97,109,112,59,38,97,109,112,59], W [97,109,112,59], 1), (W [97,109,112,59,97,109,112,59,38,97,109,112,59], W [97,109,112,59], 1), (W [97,109,112,59,38,97,109,112,59,97,109,112,59], W [97,109,112,59], 2), (W [97,109,112,59,97,109,112,59,38,97,109,112,59], W [97,109,112,59], 1), (W [97,109,112,59,38,97,109,112,59,97,109,112,59], W [97,109,112,59], 2), (W [97,109,112,59,38,97,109,112,59,97,109,112,59], W [97,109,112,59], 2), (W [38,97,109,112,59,97,109,112,59,97,109,112,59], W [97,109,112,59], 3)]
theorem eQs000 : queueTo [0, 0, 0] = Qs000 := by
  rw [show ([0, 0, 0] : List Int) = [0, 0] ++ [0] from rfl, queueTo_snoc, eQs00]
  exact eqQ_eq (by decide +kernel)
theorem kQs000 : ∀ t ∈ Qs000, okT t = true := by decide +kernel
noncomputable def Qs001 : List Trip := [(W [97,109,112,59,97,109,112,59,38], W [97,109,112,59,97,109,112,59,38,97,109,112,59], 0), (W [97,109,112,59,97,109,112,59,38], W [97,109,112,59,97,109,112,59,97,109,112,59,38], 3), (W [97,109,112,59,38,97,109,112,59], W [97,109,112,59,38,97,109,112,59,97,109,112,59], 1), (W [97,109,112,59,38,97,109,112,59], W [97,109,112,59,97,109,112,59,38,97,109,112,59], 4), (W [97,109,112,59,38,97,109,112,59], W [97,109,112,59,38,97,109,112,59,97,109,112,59], 1), (W [97,109,112,59,38,97,109,112,59], W [97,109,112,59,97,109,112,59,38,97,109,112,59], 4), (W [38,97,109,112,59,97,109,112,59], W [38,97,109,112,59,97,109,112,59,97,109,112,59], 2), (W [38,97,109,112,59,97,109,112,59], W [97,109,112,59,38,97,109,112,59,97,109,112,59], 5)]
theorem eQs001 : queueTo [0, 0, 1] = Qs001 := by
  rw [show ([0, 0, 1] : List Int) = [0, 0] ++ [1] from rfl, queueTo_snoc, eQs00]
  exact eqQ_eq (by decide +kernel)
theorem kQs001 : ∀ t ∈ Qs001, okT t = true := by decide +kernel
noncomputable def Qs010 : List Trip := [(W [97,109,112,59,38,97,109,112,59,97,109,112,59,38], W [97,109,112,59,38,97,109,112,59], 0), (W [97,109,112,59,38,97,109,112,59,38,97,109,112,59], W [97,109,112,59,38,97,109,112,59], 3), (W [97,109,112,59,97,109,112,59,38,97,109,112,59,38], W [97,109,112,59,97,109,112,59,38], 2), (W [97,109,112,59,38,97,109,112,59,97,109,112,59,38], W [97,109,112,59,97,109,112,59,38], 5), (W [38,97,109,112,59,97,109,112,59,38,97,109,112,59], W [38,97,109,112,59,97,109,112,59], 1), (W [38,97,109,112,59,38,97,109,112,59,97,109,112,59], W [38,97,109,112,59,97,109,112,59], 4), (W [97,109,112,59,38,97,109,112,59,38,97,109,112,59], W [97,109,112,59,38,97,109,112,59], 3), (W [38,97,109,112,59,97,109,112,59,38,97,109,112,59], W [97,109,112,59,38,97,109,112,59], 6)]
theorem eQs010 : queueTo [0, 1, 0] = Qs010 := by
  rw [show ([0, 1, 0] : List Int) = [0, 1] ++ [0] from rfl, queueTo_snoc, eQs01]
  exact eqQ_eq (by decide +kernel)
theorem kQs010 : ∀ t ∈ Qs010, okT t = true := by decide +kernel
noncomputable def Qs011 : List Trip := [(W [97,109,112,59,38], W [97,109,112,59,38,97,109,112,59,38,97,109,112,59], 0), (W [97,109,112,59,38], W [97,109,112,59,38,97,109,112,59,97,109,112,59,38], 2), (W [97,109,112,59,38], W [97,109,112,59,38,97,109,112,59,97,109,112,59,38], 2), (W [97,109,112,59,38], W [97,109,112,59,97,109,112,59,38,97,109,112,59,38], 4), (W [38,97,109,112,59], W [38,97,109,112,59,38,97,109,112,59,97,109,112,59], 1), (W [38,97,109,112,59], W [38,97,109,112,59,97,109,112,59,38,97,109,112,59], 3), (W [38,97,109,112,59], W [38,97,109,112,59,97,109,112,59,38,97,109,112,59], 3), (W [38,97,109,112,59], W [97,109,112,59,38,97,109,112,59,38,97,109,112,59], 5)]
theorem eQs011 : queueTo [0, 1, 1] = Qs011 := by
  rw [show ([0, 1, 1] : List Int) = [0, 1] ++ [1] from rfl, queueTo_snoc, eQs01]
  exact eqQ_eq (by decide +kernel)
theorem kQs011 : ∀ t ∈ Qs011, okT t = true := by decide +kernel
noncomputable def Qs100 : List Trip := [(W [38,97,109,112,59,38,97,109,112,59,38], W [38,97,109,112,59], 0), (W [38,97,109,112,59,38,38,97,109,112,59], W [38,97,109,112,59], 2), (W [38,97,109,112,59,38,38,97,109,112,59], W [38,97,109,112,59], 2), (W [38,38,97,109,112,59,38,97,109,112,59], W [38,97,109,112,59], 4), (W [97,109,112,59,38,97,109,112,59,38,38], W [97,109,112,59,38], 1), (W [97,109,112,59,38,38,97,109,112,59,38], W [97,109,112,59,38], 3), (W [97,109,112,59,38,38,97,109,112,59,38], W [97,109,112,59,38], 3), (W [38,97,109,112,59,38,97,109,112,59,38], W [97,109,112,59,38], 5)]
theorem eQs100 : queueTo [1, 0, 0] = Qs100 := by
  rw [show ([1, 0, 0] : List Int) = [1, 0] ++ [0] from rfl, queueTo_snoc, eQs10]
  exact eqQ_eq (by decide +kernel)
theorem kQs100 : ∀ t ∈ Qs100, okT t = true := by decide +kernel
noncomputable def Qs101 : List Trip := [(W [38,97,109,112,59,38], W [38,97,109,112,59,38,38,97,109,112,59], 0), (W [38,97,109,112,59,38], W [38,97,109,112,59,38,97,109,112,59,38], 3), (W [38,38,97,109,112,59], W [38,38,97,109,112,59,38,97,109,112,59], 2), (W [38,38,97,109,112,59], W [38,97,109,112,59,38,38,97,109,112,59], 5), (W [97,109,112,59,38,38], W [97,109,112,59,38,38,97,109,112,59,38], 1), (W [97,109,112,59,38,38], W [97,109,112,59,38,97,109,112,59,38,38], 4), (W [38,97,109,112,59,38], W [38,97,109,112,59,38,97,109,112,59,38], 3), (W [38,97,109,112,59,38], W [97,109,112,59,38,38,97,109,112,59,38], 6)]
theorem eQs101 : queueTo [1, 0, 1] = Qs101 := by
  rw [show ([1, 0, 1] : List Int) = [1, 0] ++ [1] from rfl, queueTo_snoc, eQs10]
  exact eqQ_eq (by decide +kernel)
theorem kQs101 : ∀ t ∈ Qs101, okT t = true := by decide +kernel
noncomputable def Qs110 : List Trip := [(W [38,38,97,109,112,59,38], W [38,38,97,109,112,59], 0), (W [38,38,38,97,109,112,59], W [38,38,97,109,112,59], 3), (W [38,97,109,112,59,38,38], W [38,97,109,112,59,38], 1), (W [38,38,97,109,112,59,38], W [38,97,109,112,59,38], 4), (W [38,97,109,112,59,38,38], W [38,97,109,112,59,38], 1), (W [38,38,97,109,112,59,38], W [38,97,109,112,59,38], 4), (W [97,109,112,59,38,38,38], W [97,109,112,59,38,38], 2), (W [38,97,109,112,59,38,38], W [97,109,112,59,38,38], 5)]
theorem eQs110 : queueTo [1, 1, 0] = Qs110 := by
  rw [show ([1, 1, 0] : List Int) = [1, 1] ++ [0] from rfl, queueTo_snoc, eQs11]
  exact eqQ_eq (by decide +kernel)
theorem kQs110 : ∀ t ∈ Qs110, okT t = true := by decide +kernel
noncomputable def Qs111 : List Trip := [(W [38], W [38,38,38,97,109,112,59], 0), (W [38], W [38,38,97,109,112,59,38], 1), (W [38], W [38,38,97,109,112,59,38], 1), (W [38], W [38,97,109,112,59,38,38], 2), (W [38], W [38,38,97,109,112,59,38], 1), (W [38], W [38,97,109,112,59,38,38], 2), (W [38], W [38,97,109,112,59,38,38], 2), (W [38], W [97,109,112,59,38,38,38], 3)]
theorem eQs111 : queueTo [1, 1, 1] = Qs111 := by
  rw [show ([1, 1, 1] : List Int) = [1, 1] ++ [1] from rfl, queueTo_snoc, eQs11]
  exact eqQ_eq (by decide +kernel)
theorem kQs111 : ∀ t ∈ Qs111, okT t = true := by decide +kernel
noncomputable def Qs0001 : List Trip := [(W [97,109,112,59,97,109,112,59,97,109,112,59,38], W [97,109,112,59,97,109,112,59,97,109,112,59,38,97,109,112,59], 0), (W [97,109,112,59,97,109,112,59,97,109,112,59,38], W [97,109,112,59,97,109,112,59,97,109,112,59,97,109,112,59,38], 4), (W [97,109,112,59,97,109,112,59,38,97,109,112,59], W [97,109,112,59,97,109,112,59,38,97,109,112,59,97,109,112,59], 1), (W [97,109,112,59,97,109,112,59,38,97,109,112,59], W [97,109,112,59,97,109,112,59,97,109,112,59,38,97,109,112,59], 5), (W [97,109,112,59,97,109,112,59,38,97,109,112,59], W [97,109,112,59,97,109,112,59,38,97,109,112,59,97,109,112,59], 1), (W [97,109,112,59,97,109,112,59,38,97,109,112,59], W [97,109,112,59,97,109,112,59,97,109,112,59,38,97,109,112,59], 5), (W [97,109,112,59,38,97,109,112,59,97,109,112,59], W [97,109,112,59,38,97,109,112,59,97,109,112,59,97,109,112,59], 2), (W [97,109,112,59,38,97,109,112,59,97,109,112,59], W [97,109,112,59,97,109,112,59,38,97,109,112,59,97,109,112,59], 6), (W [97,109,112,59,97,109,112,59,38,97,109,112,59], W [97,109,112,59,97,109,112,59,38,97,109,112,59,97,109,112,59], 1), (W [97,109,112,59,97,109,112,59,38,97,109,112,59], W [97,109,112,59,97,109,112,59,97,109,112,59,38,97,109,112,59], 5), (W [97,109,112,59,38,97,109,112,59,97,109,112,59], W [97,109,112,59,38,97,109,112,59,97,109,112,59,97,109,112,59], 2), (W [97,109,112,59,38,97,109,112,59,97,109,112,59], W [97,109,112,59,97,109,112,59,38,97,109,112,59,97,109,112,59], 6), (W [97,109,112,59,38,97,109,112,59,97,109,112,59], W [97,109,112,59,38,97,109,112,59,97,109,112,59,97,109,112,59], 2), (W [97,109,112,59,38,97,109,112,59,97,109,112,59], W [97,109,112,59,97,109,112,59,38,97,109,112,59,97,109,112,59], 6), (W [38,97,109,112,59,97,109,112,59,97,109,112,59], W [38,97,109,112,59,97,109,112,59,97,109,112,59,97,109,112,59], 3), (W [38,97,109,112,59,97,109,112,59,97,109,112,59], W [97,109,112,59,38,97,109,112,59,97,109,112,59,97,109,112,59], 7)]
theorem eQs0001 : queueTo [0, 0, 0, 1] = Qs0001 := by
  rw [show ([0, 0, 0, 1] : List Int) = [0, 0, 0] ++ [1] from rfl, queueTo_snoc, eQs000]
  exact eqQ_eq (by decide +kernel)
noncomputable def Qs0010 : List Trip := [(W [97,109,112,59,97,109,112,59,38,97,109,112,59,97,109,112,59,97,109,112,59,38], W [97,109,112,59,97,109,112,59,38,97,109,112,59], 0), (W [97,109,112,59,97,109,112,59,38,97,109,112,59,97,109,112,59,38,97,109,112,59], W [97,109,112,59,97,109,112,59,38,97,109,112,59], 4), (W [97,109,112,59,97,109,112,59,97,109,112,59,38,97,109,112,59,97,109,112,59,38], W [97,109,112,59,97,109,112,59,97,109,112,59,38], 3), (W [97,109,112,59,97,109,112,59,38,97,109,112,59,97,109,112,59,97,109,112,59,38], W [97,109,112,59,97,109,112,59,97,109,112,59,38], 7), (W [97,109,112,59,38,97,109,112,59,97,109,112,59,97,109,112,59,38,97,109,112,59], W [97,109,112,59,38,97,109,112,59,97,109,112,59], 1), (W [97,109,112,59,38,97,109,112,59,97,109,112,59,38,97,109,112,59,97,109,112,59], W [97,109,112,59,38,97,109,112,59,97,109,112,59], 5), (W [97,109,112,59,97,109,112,59,38,97,109,112,59,97,109,112,59,38,97,109,112,59], W [97,109,112,59,97,109,112,59,38,97,109,112,59], 4), (W [97,109,112,59,38,97,109,112,59,97,109,112,59,97,109,112,59,38,97,109,112,59], W [97,109,112,59,97,109,112,59,38,97,109,112,59], 8), (W [97,109,112,59,38,97,109,112,59,97,109,112,59,97,109,112,59,38,97,109,112,59], W [97,109,112,59,38,97,109,112,59,97,109,112,59], 1), (W [97,109,112,59,38,97,109,112,59,97,109,112,59,38,97,109,112,59,97,109,112,59], W [97,109,112,59,38,97,109,112,59,97,109,112,59], 5), (W [97,109,112,59,97,109,112,59,38,97,109,112,59,97,109,112,59,38,97,109,112,59], W [97,109,112,59,97,109,112,59,38,97,109,112,59], 4), (W [97,109,112,59,38,97,109,112,59,97,109,112,59,97,109,112,59,38,97,109,112,59], W [97,109,112,59,97,109,112,59,38,97,109,112,59], 8), (W [38,97,109,112,59,97,109,112,59,97,109,112,59,38,97,109,112,59,97,109,112,59], W [38,97,109,112,59,97,109,112,59,97,109,112,59], 2), (W [38,97,109,112,59,97,109,112,59,38,97,109,112,59,97,109,112,59,97,109,112,59], W [38,97,109,112,59,97,109,112,59,97,109,112,59], 6), (W [97,109,112,59,38,97,109,112,59,97,109,112,59,38,97,109,112,59,97,109,112,59], W [97,109,112,59,38,97,109,112,59,97,109,112,59], 5), (W [38,97,109,112,59,97,109,112,59,97,109,112,59,38,97,109,112,59,97,109,112,59], W [97,109,112,59,38,97,109,112,59,97,109,112,59], 9)]
theorem eQs0010 : queueTo [0, 0, 1, 0] = Qs0010 := by
  rw [show ([0, 0, 1, 0] : List Int) = [0, 0, 1] ++ [0] from rfl, queueTo_snoc, eQs001]
  exact eqQ_eq (by decide +kernel)
noncomputable def Qs0011 : List Trip := [(W [97,109,112,59,97,109,112,59,38], W [97,109,112,59,97,109,112,59,38,97,109,112,59,97,109,112,59,38,97,109,112,59], 0), (W [97,109,112,59,97,109,112,59,38], W [97,109,112,59,97,109,112,59,38,97,109,112,59,97,109,112,59,97,109,112,59,38], 3), (W [97,109,112,59,97,109,112,59,38], W [97,109,112,59,97,109,112,59,38,97,109,112,59,97,109,112,59,97,109,112,59,38], 3), (W [97,109,112,59,97,109,112,59,38], W [97,109,112,59,97,109,112,59,97,109,112,59,38,97,109,112,59,97,109,112,59,38], 6), (W [97,109,112,59,38,97,109,112,59], W [97,109,112,59,38,97,109,112,59,97,109,112,59,38,97,109,112,59,97,109,112,59], 1), (W [97,109,112,59,38,97,109,112,59], W [97,109,112,59,38,97,109,112,59,97,109,112,59,97,109,112,59,38,97,109,112,59], 4), (W [97,109,112,59,38,97,109,112,59], W [97,109,112,59,38,97,109,112,59,97,109,112,59,97,109,112,59,38,97,109,112,59], 4), (W [97,109,112,59,38,97,109,112,59], W [97,109,112,59,97,109,112,59,38,97,109,112,59,97,109,112,59,38,97,109,112,59], 7), (W [97,109,112,59,38,97,109,112,59], W [97,109,112,59,38,97,109,112,59,97,109,112,59,38,97,109,112,59,97,109,112,59], 1), (W [97,109,112,59,38,97,109,112,59], W [97,109,112,59,38,97,109,112,59,97,109,112,59,97,109,112,59,38,97,109,112,59], 4), (W [97,109,112,59,38,97,109,112,59], W [97,109,112,59,38,97,109,112,59,97,109,112,59,97,109,112,59,38,97,109,112,59], 4), (W [97,109,112,59,38,97,109,112,59], W [97,109,112,59,97,109,112,59,38,97,109,112,59,97,109,112,59,38,97,109,112,59], 7), (W [38,97,109,112,59,97,109,112,59], W [38,97,109,112,59,97,109,112,59,38,97,109,112,59,97,109,112,59,97,109,112,59], 2), (W [38,97,109,112,59,97,109,112,59], W [38,97,109,112,59,97,109,112,59,97,109,112,59,38,97,109,112,59,97,109,112,59], 5), (W [38,97,109,112,59,97,109,112,59], W [38,97,109,112,59,97,109,112,59,97,109,112,59,38,97,109,112,59,97,109,112,59], 5), (W [38,97,109,112,59,97,109,112,59], W [97,109,112,59,38,97,109,112,59,97,109,112,59,38,97,109,112,59,97,109,112,59], 8)]
theorem eQs0011 : queueTo [0, 0, 1, 1] = Qs0011 := by
  rw [show ([0, 0, 1, 1] : List Int) = [0, 0, 1] ++ [1] from rfl, queueTo_snoc, eQs001]
  exact eqQ_eq (by decide +kernel)
noncomputable def Qs0100 : List Trip := [(W [97,109,112,59,38,97,109,112,59,97,109,112,59,38,97,109,112,59,97,109,112,59,38], W [97,109,112,59,38,97,109,112,59], 0), (W [97,109,112,59,38,97,109,112,59,97,109,112,59,38,97,109,112,59,38,97,109,112,59], W [97,109,112,59,38,97,109,112,59], 3), (W [97,109,112,59,38,97,109,112,59,97,109,112,59,38,97,109,112,59,38,97,109,112,59], W [97,109,112,59,38,97,109,112,59], 3), (W [97,109,112,59,38,97,109,112,59,38,97,109,112,59,97,109,112,59,38,97,109,112,59], W [97,109,112,59,38,97,109,112,59], 6), (W [97,109,112,59,97,109,112,59,38,97,109,112,59,97,109,112,59,38,97,109,112,59,38], W [97,109,112,59,97,109,112,59,38], 2), (W [97,109,112,59,97,109,112,59,38,97,109,112,59,38,97,109,112,59,97,109,112,59,38], W [97,109,112,59,97,109,112,59,38], 5), (W [97,109,112,59,97,109,112,59,38,97,109,112,59,38,97,109,112,59,97,109,112,59,38], W [97,109,112,59,97,109,112,59,38], 5), (W [97,109,112,59,38,97,109,112,59,97,109,112,59,38,97,109,112,59,97,109,112,59,38], W [97,109,112,59,97,109,112,59,38], 8), (W [38,97,109,112,59,97,109,112,59,38,97,109,112,59,97,109,112,59,38,97,109,112,59], W [38,97,109,112,59,97,109,112,59], 1), (W [38,97,109,112,59,97,109,112,59,38,97,109,112,59,38,97,109,112,59,97,109,112,59], W [38,97,109,112,59,97,109,112,59], 4), (W [38,97,109,112,59,97,109,112,59,38,97,109,112,59,38,97,109,112,59,97,109,112,59], W [38,97,109,112,59,97,109,112,59], 4), (W [38,97,109,112,59,38,97,109,112,59,97,109,112,59,38,97,109,112,59,97,109,112,59], W [38,97,109,112,59,97,109,112,59], 7), (W [97,109,112,59,38,97,109,112,59,97,109,112,59,38,97,109,112,59,38,97,109,112,59], W [97,109,112,59,38,97,109,112,59], 3), (W [97,109,112,59,38,97,109,112,59,38,97,109,112,59,97,109,112,59,38,97,109,112,59], W [97,109,112,59,38,97,109,112,59], 6), (W [97,109,112,59,38,97,109,112,59,38,97,109,112,59,97,109,112,59,38,97,109,112,59], W [97,109,112,59,38,97,109,112,59], 6), (W [38,97,109,112,59,97,109,112,59,38,97,109,112,59,97,109,112,59,38,97,109,112,59], W [97,109,112,59,38,97,109,112,59], 9)]
theorem eQs0100 : queueTo [0, 1, 0, 0] = Qs0100 := by
  rw [show ([0, 1, 0, 0] : List Int) = [0, 1, 0] ++ [0] from rfl, queueTo_snoc, eQs010]
  exact eqQ_eq (by decide +kernel)
noncomputable def Qs0101 : List Trip := [(W [97,109,112,59,38,97,109,112,59,97,109,112,59,38], W [97,109,112,59,38,97,109,112,59,97,109,112,59,38,97,109,112,59,38,97,109,112,59], 0), (W [97,109,112,59,38,97,109,112,59,97,109,112,59,38], W [97,109,112,59,38,97,109,112,59,97,109,112,59,38,97,109,112,59,97,109,112,59,38], 5), (W [97,109,112,59,38,97,109,112,59,38,97,109,112,59], W [97,109,112,59,38,97,109,112,59,38,97,109,112,59,97,109,112,59,38,97,109,112,59], 3), (W [97,109,112,59,38,97,109,112,59,38,97,109,112,59], W [97,109,112,59,38,97,109,112,59,97,109,112,59,38,97,109,112,59,38,97,109,112,59], 8), (W [97,109,112,59,97,109,112,59,38,97,109,112,59,38], W [97,109,112,59,97,109,112,59,38,97,109,112,59,38,97,109,112,59,97,109,112,59,38], 2), (W [97,109,112,59,97,109,112,59,38,97,109,112,59,38], W [97,109,112,59,97,109,112,59,38,97,109,112,59,97,109,112,59,38,97,109,112,59,38], 7), (W [97,109,112,59,38,97,109,112,59,97,109,112,59,38], W [97,109,112,59,38,97,109,112,59,97,109,112,59,38,97,109,112,59,97,109,112,59,38], 5), (W [97,109,112,59,38,97,109,112,59,97,109,112,59,38], W [97,109,112,59,97,109,112,59,38,97,109,112,59,38,97,109,112,59,97,109,112,59,38], 10), (W [38,97,109,112,59,97,109,112,59,38,97,109,112,59], W [38,97,109,112,59,97,109,112,59,38,97,109,112,59,38,97,109,112,59,97,109,112,59], 1), (W [38,97,109,112,59,97,109,112,59,38,97,109,112,59], W [38,97,109,112,59,97,109,112,59,38,97,109,112,59,97,109,112,59,38,97,109,112,59], 6), (W [38,97,109,112,59,38,97,109,112,59,97,109,112,59], W [38,97,109,112,59,38,97,109,112,59,97,109,112,59,38,97,109,112,59,97,109,112,59], 4), (W [38,97,109,112,59,38,97,109,112,59,97,109,112,59], W [38,97,109,112,59,97,109,112,59,38,97,109,112,59,38,97,109,112,59,97,109,112,59], 9), (W [97,109,112,59,38,97,109,112,59,38,97,109,112,59], W [97,109,112,59,38,97,109,112,59,38,97,109,112,59,97,109,112,59,38,97,109,112,59], 3), (W [97,109,112,59,38,97,109,112,59,38,97,109,112,59], W [97,109,112,59,38,97,109,112,59,97,109,112,59,38,97,109,112,59,38,97,109,112,59], 8), (W [38,97,109,112,59,97,109,112,59,38,97,109,112,59], W [38,97,109,112,59,97,109,112,59,38,97,109,112,59,97,109,112,59,38,97,109,112,59], 6), (W [38,97,109,112,59,97,109,112,59,38,97,109,112,59], W [97,109,112,59,38,97,109,112,59,38,97,109,112,59,97,109,112,59,38,97,109,112,59], 11)]
theorem eQs0101 : queueTo [0, 1, 0, 1] = Qs0101 := by
  rw [show ([0, 1, 0, 1] : List Int) = [0, 1, 0] ++ [1] from rfl, queueTo_snoc, eQs010]
  exact eqQ_eq (by decide +kernel)
noncomputable def Qs0110 : List Trip := [(W [97,109,112,59,38,97,109,112,59,38,97,109,112,59,97,109,112,59,38], W [97,109,112,59,38,97,109,112,59,38,97,109,112,59], 0), (W [97,109,112,59,38,97,109,112,59,38,97,109,112,59,38,97,109,112,59], W [97,109,112,59,38,97,109,112,59,38,97,109,112,59], 5), (W [97,109,112,59,38,97,109,112,59,97,109,112,59,38,97,109,112,59,38], W [97,109,112,59,38,97,109,112,59,97,109,112,59,38], 2), (W [97,109,112,59,38,97,109,112,59,38,97,109,112,59,97,109,112,59,38], W [97,109,112,59,38,97,109,112,59,97,109,112,59,38], 7), (W [97,109,112,59,38,97,109,112,59,97,109,112,59,38,97,109,112,59,38], W [97,109,112,59,38,97,109,112,59,97,109,112,59,38], 2), (W [97,109,112,59,38,97,109,112,59,38,97,109,112,59,97,109,112,59,38], W [97,109,112,59,38,97,109,112,59,97,109,112,59,38], 7), (W [97,109,112,59,97,109,112,59,38,97,109,112,59,38,97,109,112,59,38], W [97,109,112,59,97,109,112,59,38,97,109,112,59,38], 4), (W [97,109,112,59,38,97,109,112,59,97,109,112,59,38,97,109,112,59,38], W [97,109,112,59,97,109,112,59,38,97,109,112,59,38], 9), (W [38,97,109,112,59,38,97,109,112,59,97,109,112,59,38,97,109,112,59], W [38,97,109,112,59,38,97,109,112,59,97,109,112,59], 1), (W [38,97,109,112,59,38,97,109,112,59,38,97,109,112,59,97,109,112,59], W [38,97,109,112,59,38,97,109,112,59,97,109,112,59], 6), (W [38,97,109,112,59,97,109,112,59,38,97,109,112,59,38,97,109,112,59], W [38,97,109,112,59,97,109,112,59,38,97,109,112,59], 3), (W [38,97,109,112,59,38,97,109,112,59,97,109,112,59,38,97,109,112,59], W [38,97,109,112,59,97,109,112,59,38,97,109,112,59], 8), (W [38,97,109,112,59,97,109,112,59,38,97,109,112,59,38,97,109,112,59], W [38,97,109,112,59,97,109,112,59,38,97,109,112,59], 3), (W [38,97,109,112,59,38,97,109,112,59,97,109,112,59,38,97,109,112,59], W [38,97,109,112,59,97,109,112,59,38,97,109,112,59], 8), (W [97,109,112,59,38,97,109,112,59,38,97,109,112,59,38,97,109,112,59], W [97,109,112,59,38,97,109,112,59,38,97,109,112,59], 5), (W [38,97,109,112,59,97,109,112,59,38,97,109,112,59,38,97,109,112,59], W [97,109,112,59,38,97,109,112,59,38,97,109,112,59], 10)]
theorem eQs0110 : queueTo [0, 1, 1, 0] = Qs0110 := by
  rw [show ([0, 1, 1, 0] : List Int) = [0, 1, 1] ++ [0] from rfl, queueTo_snoc, eQs011]
  exact eqQ_eq (by decide +kernel)
noncomputable def Qs0111 : List Trip := [(W [97,109,112,59,38], W [97,109,112,59,38,97,109,112,59,38,97,109,112,59,38,97,109,112,59], 0), (W [97,109,112,59,38], W [97,109,112,59,38,97,109,112,59,38,97,109,112,59,97,109,112,59,38], 2), (W [97,109,112,59,38], W [97,109,112,59,38,97,109,112,59,38,97,109,112,59,97,109,112,59,38], 2), (W [97,109,112,59,38], W [97,109,112,59,38,97,109,112,59,97,109,112,59,38,97,109,112,59,38], 4), (W [97,109,112,59,38], W [97,109,112,59,38,97,109,112,59,38,97,109,112,59,97,109,112,59,38], 2), (W [97,109,112,59,38], W [97,109,112,59,38,97,109,112,59,97,109,112,59,38,97,109,112,59,38], 4), (W [97,109,112,59,38], W [97,109,112,59,38,97,109,112,59,97,109,112,59,38,97,109,112,59,38], 4), (W [97,109,112,59,38], W [97,109,112,59,97,109,112,59,38,97,109,112,59,38,97,109,112,59,38], 6), (W [38,97,109,112,59], W [38,97,109,112,59,38,97,109,112,59,38,97,109,112,59,97,109,112,59], 1), (W [38,97,109,112,59], W [38,97,109,112,59,38,97,109,112,59,97,109,112,59,38,97,109,112,59], 3), (W [38,97,109,112,59], W [38,97,109,112,59,38,97,109,112,59,97,109,112,59,38,97,109,112,59], 3), (W [38,97,109,112,59], W [38,97,109,112,59,97,109,112,59,38,97,109,112,59,38,97,109,112,59], 5), (W [38,97,109,112,59], W [38,97,109,112,59,38,97,109,112,59,97,109,112,59,38,97,109,112,59], 3), (W [38,97,109,112,59], W [38,97,109,112,59,97,109,112,59,38,97,109,112,59,38,97,109,112,59], 5), (W [38,97,109,112,59], W [38,97,109,112,59,97,109,112,59,38,97,109,112,59,38,97,109,112,59], 5), (W [38,97,109,112,59], W [97,109,112,59,38,97,109,112,59,38,97,109,112,59,38,97,109,112,59], 7)]
theorem eQs0111 : queueTo [0, 1, 1, 1] = Qs0111 := by
  rw [show ([0, 1, 1, 1] : List Int) = [0, 1, 1] ++ [1] from rfl, queueTo_snoc, eQs011]
  exact eqQ_eq (by decide +kernel)
noncomputable def Qs1000 : List Trip := [(W [38,97,109,112,59,38,97,109,112,59,38,97,109,112,59,38], W [38,97,109,112,59], 0), (W [38,97,109,112,59,38,97,109,112,59,38,38,97,109,112,59], W [38,97,109,112,59], 2), (W [38,97,109,112,59,38,97,109,112,59,38,38,97,109,112,59], W [38,97,109,112,59], 2), (W [38,97,109,112,59,38,38,97,109,112,59,38,97,109,112,59], W [38,97,109,112,59], 4), (W [38,97,109,112,59,38,97,109,112,59,38,38,97,109,112,59], W [38,97,109,112,59], 2), (W [38,97,109,112,59,38,38,97,109,112,59,38,97,109,112,59], W [38,97,109,112,59], 4), (W [38,97,109,112,59,38,38,97,109,112,59,38,97,109,112,59], W [38,97,109,112,59], 4), (W [38,38,97,109,112,59,38,97,109,112,59,38,97,109,112,59], W [38,97,109,112,59], 6), (W [97,109,112,59,38,97,109,112,59,38,97,109,112,59,38,38], W [97,109,112,59,38], 1), (W [97,109,112,59,38,97,109,112,59,38,38,97,109,112,59,38], W [97,109,112,59,38], 3), (W [97,109,112,59,38,97,109,112,59,38,38,97,109,112,59,38], W [97,109,112,59,38], 3), (W [97,109,112,59,38,38,97,109,112,59,38,97,109,112,59,38], W [97,109,112,59,38], 5), (W [97,109,112,59,38,97,109,112,59,38,38,97,109,112,59,38], W [97,109,112,59,38], 3), (W [97,109,112,59,38,38,97,109,112,59,38,97,109,112,59,38], W [97,109,112,59,38], 5), (W [97,109,112,59,38,38,97,109,112,59,38,97,109,112,59,38], W [97,109,112,59,38], 5), (W [38,97,109,112,59,38,97,109,112,59,38,97,109,112,59,38], W [97,109,112,59,38], 7)]
theorem eQs1000 : queueTo [1, 0, 0, 0] = Qs1000 := by
  rw [show ([1, 0, 0, 0] : List Int) = [1, 0, 0] ++ [0] from rfl, queueTo_snoc, eQs100]
  exact eqQ_eq (by decide +kernel)
noncomputable def Qs1001 : List Trip := [(W [38,97,109,112,59,38,97,109,112,59,38], W [38,97,109,112,59,38,97,109,112,59,38,38,97,109,112,59], 0), (W [38,97,109,112,59,38,97,109,112,59,38], W [38,97,109,112,59,38,97,109,112,59,38,97,109,112,59,38], 5), (W [38,97,109,112,59,38,38,97,109,112,59], W [38,97,109,112,59,38,38,97,109,112,59,38,97,109,112,59], 2), (W [38,97,109,112,59,38,38,97,109,112,59], W [38,97,109,112,59,38,97,109,112,59,38,38,97,109,112,59], 7), (W [38,97,109,112,59,38,38,97,109,112,59], W [38,97,109,112,59,38,38,97,109,112,59,38,97,109,112,59], 2), (W [38,97,109,112,59,38,38,97,109,112,59], W [38,97,109,112,59,38,97,109,112,59,38,38,97,109,112,59], 7), (W [38,38,97,109,112,59,38,97,109,112,59], W [38,38,97,109,112,59,38,97,109,112,59,38,97,109,112,59], 4), (W [38,38,97,109,112,59,38,97,109,112,59], W [38,97,109,112,59,38,38,97,109,112,59,38,97,109,112,59], 9), (W [97,109,112,59,38,97,109,112,59,38,38], W [97,109,112,59,38,97,109,112,59,38,38,97,109,112,59,38], 1), (W [97,109,112,59,38,97,109,112,59,38,38], W [97,109,112,59,38,97,109,112,59,38,97,109,112,59,38,38], 6), (W [97,109,112,59,38,38,97,109,112,59,38], W [97,109,112,59,38,38,97,109,112,59,38,97,109,112,59,38], 3), (W [97,109,112,59,38,38,97,109,112,59,38], W [97,109,112,59,38,97,109,112,59,38,38,97,109,112,59,38], 8), (W [97,109,112,59,38,38,97,109,112,59,38], W [97,109,112,59,38,38,97,109,112,59,38,97,109,112,59,38], 3), (W [97,109,112,59,38,38,97,109,112,59,38], W [97,109,112,59,38,97,109,112,59,38,38,97,109,112,59,38], 8), (W [38,97,109,112,59,38,97,109,112,59,38], W [38,97,109,112,59,38,97,109,112,59,38,97,109,112,59,38], 5), (W [38,97,109,112,59,38,97,109,112,59,38], W [97,109,112,59,38,38,97,109,112,59,38,97,109,112,59,38], 10)]
theorem eQs1001 : queueTo [1, 0, 0, 1] = Qs1001 := by
  rw [show ([1, 0, 0, 1] : List Int) = [1, 0, 0] ++ [1] from rfl, queueTo_snoc, eQs100]
  exact eqQ_eq (by decide +kernel)
noncomputable def Qs1010 : List Trip := [(W [38,97,109,112,59,38,38,97,109,112,59,38,97,109,112,59,38], W [38,97,109,112,59,38,38,97,109,112,59], 0), (W [38,97,109,112,59,38,38,97,109,112,59,38,38,97,109,112,59], W [38,97,109,112,59,38,38,97,109,112,59], 5), (W [38,97,109,112,59,38,97,109,112,59,38,38,97,109,112,59,38], W [38,97,109,112,59,38,97,109,112,59,38], 3), (W [38,97,109,112,59,38,38,97,109,112,59,38,97,109,112,59,38], W [38,97,109,112,59,38,97,109,112,59,38], 8), (W [38,38,97,109,112,59,38,97,109,112,59,38,38,97,109,112,59], W [38,38,97,109,112,59,38,97,109,112,59], 2), (W [38,38,97,109,112,59,38,38,97,109,112,59,38,97,109,112,59], W [38,38,97,109,112,59,38,97,109,112,59], 7), (W [38,97,109,112,59,38,38,97,109,112,59,38,38,97,109,112,59], W [38,97,109,112,59,38,38,97,109,112,59], 5), (W [38,38,97,109,112,59,38,97,109,112,59,38,38,97,109,112,59], W [38,97,109,112,59,38,38,97,109,112,59], 10), (W [97,109,112,59,38,38,97,109,112,59,38,97,109,112,59,38,38], W [97,109,112,59,38,38,97,109,112,59,38], 1), (W [97,109,112,59,38,38,97,109,112,59,38,38,97,109,112,59,38], W [97,109,112,59,38,38,97,109,112,59,38], 6), (W [97,109,112,59,38,97,109,112,59,38,38,97,109,112,59,38,38], W [97,109,112,59,38,97,109,112,59,38,38], 4), (W [97,109,112,59,38,38,97,109,112,59,38,97,109,112,59,38,38], W [97,109,112,59,38,97,109,112,59,38,38], 9), (W [38,97,109,112,59,38,97,109,112,59,38,38,97,109,112,59,38], W [38,97,109,112,59,38,97,109,112,59,38], 3), (W [38,97,109,112,59,38,38,97,109,112,59,38,97,109,112,59,38], W [38,97,109,112,59,38,97,109,112,59,38], 8), (W [97,109,112,59,38,38,97,109,112,59,38,38,97,109,112,59,38], W [97,109,112,59,38,38,97,109,112,59,38], 6), (W [38,97,109,112,59,38,97,109,112,59,38,38,97,109,112,59,38], W [97,109,112,59,38,38,97,109,112,59,38], 11)]
theorem eQs1010 : queueTo [1, 0, 1, 0] = Qs1010 := by
  rw [show ([1, 0, 1, 0] : List Int) = [1, 0, 1] ++ [0] from rfl, queueTo_snoc, eQs101]
  exact eqQ_eq (by decide +kernel)
noncomputable def Qs1011 : List Trip := [(W [38,97,109,112,59,38], W [38,97,109,112,59,38,38,97,109,112,59,38,38,97,109,112,59], 0), (W [38,97,109,112,59,38], W [38,97,109,112,59,38,38,97,109,112,59,38,97,109,112,59,38], 3), (W [38,97,109,112,59,38], W [38,97,109,112,59,38,38,97,109,112,59,38,97,109,112,59,38], 3), (W [38,97,109,112,59,38], W [38,97,109,112,59,38,97,109,112,59,38,38,97,109,112,59,38], 6), (W [38,38,97,109,112,59], W [38,38,97,109,112,59,38,38,97,109,112,59,38,97,109,112,59], 2), (W [38,38,97,109,112,59], W [38,38,97,109,112,59,38,97,109,112,59,38,38,97,109,112,59], 5), (W [38,38,97,109,112,59], W [38,38,97,109,112,59,38,97,109,112,59,38,38,97,109,112,59], 5), (W [38,38,97,109,112,59], W [38,97,109,112,59,38,38,97,109,112,59,38,38,97,109,112,59], 8), (W [97,109,112,59,38,38], W [97,109,112,59,38,38,97,109,112,59,38,38,97,109,112,59,38], 1), (W [97,109,112,59,38,38], W [97,109,112,59,38,38,97,109,112,59,38,97,109,112,59,38,38], 4), (W [97,109,112,59,38,38], W [97,109,112,59,38,38,97,109,112,59,38,97,109,112,59,38,38], 4), (W [97,109,112,59,38,38], W [97,109,112,59,38,97,109,112,59,38,38,97,109,112,59,38,38], 7), (W [38,97,109,112,59,38], W [38,97,109,112,59,38,38,97,109,112,59,38,97,109,112,59,38], 3), (W [38,97,109,112,59,38], W [38,97,109,112,59,38,97,109,112,59,38,38,97,109,112,59,38], 6), (W [38,97,109,112,59,38], W [38,97,109,112,59,38,97,109,112,59,38,38,97,109,112,59,38], 6), (W [38,97,109,112,59,38], W [97,109,112,59,38,38,97,109,112,59,38,38,97,109,112,59,38], 9)]
theorem eQs1011 : queueTo [1, 0, 1, 1] = Qs1011 := by
  rw [show ([1, 0, 1, 1] : List Int) = [1, 0, 1] ++ [1] from rfl, queueTo_snoc, eQs101]
  exact eqQ_eq (by decide +kernel)
noncomputable def Qs1100 : List Trip := [(W [38,38,97,109,112,59,38,38,97,109,112,59,38], W [38,38,97,109,112,59], 0), (W [38,38,97,109,112,59,38,38,38,97,109,112,59], W [38,38,97,109,112,59], 3), (W [38,38,97,109,112,59,38,38,38,97,109,112,59], W [38,38,97,109,112,59], 3), (W [38,38,38,97,109,112,59,38,38,97,109,112,59], W [38,38,97,109,112,59], 6), (W [38,97,109,112,59,38,38,97,109,112,59,38,38], W [38,97,109,112,59,38], 1), (W [38,97,109,112,59,38,38,38,97,109,112,59,38], W [38,97,109,112,59,38], 4), (W [38,97,109,112,59,38,38,38,97,109,112,59,38], W [38,97,109,112,59,38], 4), (W [38,38,97,109,112,59,38,38,97,109,112,59,38], W [38,97,109,112,59,38], 7), (W [38,97,109,112,59,38,38,97,109,112,59,38,38], W [38,97,109,112,59,38], 1), (W [38,97,109,112,59,38,38,38,97,109,112,59,38], W [38,97,109,112,59,38], 4), (W [38,97,109,112,59,38,38,38,97,109,112,59,38], W [38,97,109,112,59,38], 4), (W [38,38,97,109,112,59,38,38,97,109,112,59,38], W [38,97,109,112,59,38], 7), (W [97,109,112,59,38,38,97,109,112,59,38,38,38], W [97,109,112,59,38,38], 2), (W [97,109,112,59,38,38,38,97,109,112,59,38,38], W [97,109,112,59,38,38], 5), (W [97,109,112,59,38,38,38,97,109,112,59,38,38], W [97,109,112,59,38,38], 5), (W [38,97,109,112,59,38,38,97,109,112,59,38,38], W [97,109,112,59,38,38], 8)]
theorem eQs1100 : queueTo [1, 1, 0, 0] = Qs1100 := by
  rw [show ([1, 1, 0, 0] : List Int) = [1, 1, 0] ++ [0] from rfl, queueTo_snoc, eQs110]
  exact eqQ_eq (by decide +kernel)
noncomputable def Qs1101 : List Trip := [(W [38,38,97,109,112,59,38], W [38,38,97,109,112,59,38,38,38,97,109,112,59], 0), (W [38,38,97,109,112,59,38], W [38,38,97,109,112,59,38,38,97,109,112,59,38], 4), (W [38,38,38,97,109,112,59], W [38,38,38,97,109,112,59,38,38,97,109,112,59], 3), (W [38,38,38,97,109,112,59], W [38,38,97,109,112,59,38,38,38,97,109,112,59], 7), (W [38,97,109,112,59,38,38], W [38,97,109,112,59,38,38,38,97,109,112,59,38], 1), (W [38,97,109,112,59,38,38], W [38,97,109,112,59,38,38,97,109,112,59,38,38], 5), (W [38,38,97,109,112,59,38], W [38,38,97,109,112,59,38,38,97,109,112,59,38], 4), (W [38,38,97,109,112,59,38], W [38,97,109,112,59,38,38,38,97,109,112,59,38], 8), (W [38,97,109,112,59,38,38], W [38,97,109,112,59,38,38,38,97,109,112,59,38], 1), (W [38,97,109,112,59,38,38], W [38,97,109,112,59,38,38,97,109,112,59,38,38], 5), (W [38,38,97,109,112,59,38], W [38,38,97,109,112,59,38,38,97,109,112,59,38], 4), (W [38,38,97,109,112,59,38], W [38,97,109,112,59,38,38,38,97,109,112,59,38], 8), (W [97,109,112,59,38,38,38], W [97,109,112,59,38,38,38,97,109,112,59,38,38], 2), (W [97,109,112,59,38,38,38], W [97,109,112,59,38,38,97,109,112,59,38,38,38], 6), (W [38,97,109,112,59,38,38], W [38,97,109,112,59,38,38,97,109,112,59,38,38], 5), (W [38,97,109,112,59,38,38], W [97,109,112,59,38,38,38,97,109,112,59,38,38], 9)]
theorem eQs1101 : queueTo [1, 1, 0, 1] = Qs1101 := by
  rw [show ([1, 1, 0, 1] : List Int) = [1, 1, 0] ++ [1] from rfl, queueTo_snoc, eQs110]
  exact eqQ_eq (by decide +kernel)
noncomputable def Qs1110 : List Trip := [(W [38,38,38,97,109,112,59,38], W [38,38,38,97,109,112,59], 0), (W [38,38,38,38,97,109,112,59], W [38,38,38,97,109,112,59], 4), (W [38,38,97,109,112,59,38,38], W [38,38,97,109,112,59,38], 1), (W [38,38,38,97,109,112,59,38], W [38,38,97,109,112,59,38], 5), (W [38,38,97,109,112,59,38,38], W [38,38,97,109,112,59,38], 1), (W [38,38,38,97,109,112,59,38], W [38,38,97,109,112,59,38], 5), (W [38,97,109,112,59,38,38,38], W [38,97,109,112,59,38,38], 2), (W [38,38,97,109,112,59,38,38], W [38,97,109,112,59,38,38], 6), (W [38,38,97,109,112,59,38,38], W [38,38,97,109,112,59,38], 1), (W [38,38,38,97,109,112,59,38], W [38,38,97,109,112,59,38], 5), (W [38,97,109,112,59,38,38,38], W [38,97,109,112,59,38,38], 2), (W [38,38,97,109,112,59,38,38], W [38,97,109,112,59,38,38], 6), (W [38,97,109,112,59,38,38,38], W [38,97,109,112,59,38,38], 2), (W [38,38,97,109,112,59,38,38], W [38,97,109,112,59,38,38], 6), (W [97,109,112,59,38,38,38,38], W [97,109,112,59,38,38,38], 3), (W [38,97,109,112,59,38,38,38], W [97,109,112,59,38,38,38], 7)]
theorem eQs1110 : queueTo [1, 1, 1, 0] = Qs1110 := by
  rw [show ([1, 1, 1, 0] : List Int) = [1, 1, 1] ++ [0] from rfl, queueTo_snoc, eQs111]
  exact eqQ_eq (by decide +kernel)
noncomputable def Ns0001 : List (Str × Str) := [(W [97,109,112,59,97,109,112,59,97,109,112,59,38,46,97,109,112,59,97,109,112,59,97,109,112,59,38,97,109,112,59], W [48]), (W [97,109,112,59,97,109,112,59,97,109,112,59,38,46,97,109,112,59,97,109,112,59,97,109,112,59,97,109,112,59,38], W [52]), (W [97,109,112,59,97,109,112,59,38,97,109,112,59,46,97,109,112,59,97,109,112,59,38,97,109,112,59,97,109,112,59], W [49]), (W [97,109,112,59,97,109,112,59,38,97,109,112,59,46,97,109,112,59,97,109,112,59,97,109,112,59,38,97,109,112,59], W [53]), (W [97,109,112,59,97,109,112,59,38,97,109,112,59,46,97,109,112,59,97,109,112,59,38,97,109,112,59,97,109,112,59], W [49]), (W [97,109,112,59,97,109,112,59,38,97,109,112,59,46,97,109,112,59,97,109,112,59,97,109,112,59,38,97,109,112,59], W [53]), (W [97,109,112,59,38,97,109,112,59,97,109,112,59,46,97,109,112,59,38,97,109,112,59,97,109,112,59,97,109,112,59], W [50]), (W [97,109,112,59,38,97,109,112,59,97,109,112,59,46,97,109,112,59,97,109,112,59,38,97,109,112,59,97,109,112,59], W [54]), (W [97,109,112,59,97,109,112,59,38,97,109,112,59,46,97,109,112,59,97,109,112,59,38,97,109,112,59,97,109,112,59], W [49]), (W [97,109,112,59,97,109,112,59,38,97,109,112,59,46,97,109,112,59,97,109,112,59,97,109,112,59,38,97,109,112,59], W [53]), (W [97,109,112,59,38,97,109,112,59,97,109,112,59,46,97,109,112,59,38,97,109,112,59,97,109,112,59,97,109,112,59], W [50]), (W [97,109,112,59,38,97,109,112,59,97,109,112,59,46,97,109,112,59,97,109,112,59,38,97,109,112,59,97,109,112,59], W [54]), (W [97,109,112,59,38,97,109,112,59,97,109,112,59,46,97,109,112,59,38,97,109,112,59,97,109,112,59,97,109,112,59], W [50]), (W [97,109,112,59,38,97,109,112,59,97,109,112,59,46,97,109,112,59,97,109,112,59,38,97,109,112,59,97,109,112,59], W [54]), (W [38,97,109,112,59,97,109,112,59,97,109,112,59,46,38,97,109,112,59,97,109,112,59,97,109,112,59,97,109,112,59], W [51]), (W [38,97,109,112,59,97,109,112,59,97,109,112,59,46,97,109,112,59,38,97,109,112,59,97,109,112,59,97,109,112,59], W [55])]
noncomputable def Ts0001 : List (Str × Str) := [(W [97,109,112,59,97,109,112,59,97,109,112,59,38,46,97,109,112,59,97,109,112,59,97,109,112,59,38,97,109,112,59], W [48]), (W [97,109,112,59,97,109,112,59,97,109,112,59,38,46,97,109,112,59,97,109,112,59,97,109,112,59,97,109,112,59,38], W [52]), (W [97,109,112,59,97,109,112,59,38,97,109,112,59,46,97,109,112,59,97,109,112,59,38,97,109,112,59,97,109,112,59], W [49]), (W [97,109,112,59,97,109,112,59,38,97,109,112,59,46,97,109,112,59,97,109,112,59,97,109,112,59,38,97,109,112,59], W [53]), (W [97,109,112,59,38,97,109,112,59,97,109,112,59,46,97,109,112,59,38,97,109,112,59,97,109,112,59,97,109,112,59], W [50]), (W [97,109,112,59,38,97,109,112,59,97,109,112,59,46,97,109,112,59,97,109,112,59,38,97,109,112,59,97,109,112,59], W [54]), (W [38,97,109,112,59,97,109,112,59,97,109,112,59,46,38,97,109,112,59,97,109,112,59,97,109,112,59,97,109,112,59], W [51]), (W [38,97,109,112,59,97,109,112,59,97,109,112,59,46,97,109,112,59,38,97,109,112,59,97,109,112,59,97,109,112,59], W [55])]
theorem eNs0001 : Qs0001.map nmOf = Ns0001 := eqP_eq (by decide +kernel)
theorem eTs0001 : Ns0001.foldl tf (some []) = some Ts0001 := by
  have h : (match Ns0001.foldl tf (some []) with | some t => eqP t Ts0001 | none => false) = true := by decide +kernel
  split at h
  · rename_i e; rw [e, eqP_eq h]
  · cases h
theorem lQs0001 : ∀ t ∈ Qs0001, t.1.length ≤ 1000 ∧ t.2.1.length ≤ 1000 := by decide +kernel
theorem eRs0001 : wrun (List.reverse [0, 0, 0, 1]) (Str.ofString "&") = some (W [97,98,98,98]) ∧ wrun (List.reverse [0, 0, 0, 1]) (Str.ofString "amp;") = some (W [98,97,98,98,98]) := by decide +kernel
noncomputable def Ns0010 : List (Str × Str) := [(W [97,109,112,59,97,109,112,59,38,97,109,112,59,97,109,112,59,97,109,112,59,38,46,97,109,112,59,97,109,112,59,38,97,109,112,59], W [48]), (W [97,109,112,59,97,109,112,59,38,97,109,112,59,97,109,112,59,38,97,109,112,59,46,97,109,112,59,97,109,112,59,38,97,109,112,59], W [52]), (W [97,109,112,59,97,109,112,59,97,109,112,59,38,97,109,112,59,97,109,112,59,38,46,97,109,112,59,97,109,112,59,97,109,112,59,38], W [51]), (W [97,109,112,59,97,109,112,59,38,97,109,112,59,97,109,112,59,97,109,112,59,38,46,97,109,112,59,97,109,112,59,97,109,112,59,38], W [55]), (W [97,109,112,59,38,97,109,112,59,97,109,112,59,97,109,112,59,38,97,109,112,59,46,97,109,112,59,38,97,109,112,59,97,109,112,59], W [49]), (W [97,109,112,59,38,97,109,112,59,97,109,112,59,38,97,109,112,59,97,109,112,59,46,97,109,112,59,38,97,109,112,59,97,109,112,59], W [53]), (W [97,109,112,59,97,109,112,59,38,97,109,112,59,97,109,112,59,38,97,109,112,59,46,97,109,112,59,97,109,112,59,38,97,109,112,59], W [52]), (W [97,109,112,59,38,97,109,112,59,97,109,112,59,97,109,112,59,38,97,109,112,59,46,97,109,112,59,97,109,112,59,38,97,109,112,59], W [56]), (W [97,109,112,59,38,97,109,112,59,97,109,112,59,97,109,112,59,38,97,109,112,59,46,97,109,112,59,38,97,109,112,59,97,109,112,59], W [49]), (W [97,109,112,59,38,97,109,112,59,97,109,112,59,38,97,109,112,59,97,109,112,59,46,97,109,112,59,38,97,109,112,59,97,109,112,59], W [53]), (W [97,109,112,59,97,109,112,59,38,97,109,112,59,97,109,112,59,38,97,109,112,59,46,97,109,112,59,97,109,112,59,38,97,109,112,59], W [52]), (W [97,109,112,59,38,97,109,112,59,97,109,112,59,97,109,112,59,38,97,109,112,59,46,97,109,112,59,97,109,112,59,38,97,109,112,59], W [56]), (W [38,97,109,112,59,97,109,112,59,97,109,112,59,38,97,109,112,59,97,109,112,59,46,38,97,109,112,59,97,109,112,59,97,109,112,59], W [50]), (W [38,97,109,112,59,97,109,112,59,38,97,109,112,59,97,109,112,59,97,109,112,59,46,38,97,109,112,59,97,109,112,59,97,109,112,59], W [54]), (W [97,109,112,59,38,97,109,112,59,97,109,112,59,38,97,109,112,59,97,109,112,59,46,97,109,112,59,38,97,109,112,59,97,109,112,59], W [53]), (W [38,97,109,112,59,97,109,112,59,97,109,112,59,38,97,109,112,59,97,109,112,59,46,97,109,112,59,38,97,109,112,59,97,109,112,59], W [57])]
noncomputable def Ts0010 : List (Str × Str) := [(W [97,109,112,59,97,109,112,59,38,97,109,112,59,97,109,112,59,97,109,112,59,38,46,97,109,112,59,97,109,112,59,38,97,109,112,59], W [48]), (W [97,109,112,59,97,109,112,59,38,97,109,112,59,97,109,112,59,38,97,109,112,59,46,97,109,112,59,97,109,112,59,38,97,109,112,59], W [52]), (W [97,109,112,59,97,109,112,59,97,109,112,59,38,97,109,112,59,97,109,112,59,38,46,97,109,112,59,97,109,112,59,97,109,112,59,38], W [51]), (W [97,109,112,59,97,109,112,59,38,97,109,112,59,97,109,112,59,97,109,112,59,38,46,97,109,112,59,97,109,112,59,97,109,112,59,38], W [55]), (W [97,109,112,59,38,97,109,112,59,97,109,112,59,97,109,112,59,38,97,109,112,59,46,97,109,112,59,38,97,109,112,59,97,109,112,59], W [49]), (W [97,109,112,59,38,97,109,112,59,97,109,112,59,38,97,109,112,59,97,109,112,59,46,97,109,112,59,38,97,109,112,59,97,109,112,59], W [53]), (W [97,109,112,59,38,97,109,112,59,97,109,112,59,97,109,112,59,38,97,109,112,59,46,97,109,112,59,97,109,112,59,38,97,109,112,59], W [56]), (W [38,97,109,112,59,97,109,112,59,97,109,112,59,38,97,109,112,59,97,109,112,59,46,38,97,109,112,59,97,109,112,59,97,109,112,59], W [50]), (W [38,97,109,112,59,97,109,112,59,38,97,109,112,59,97,109,112,59,97,109,112,59,46,38,97,109,112,59,97,109,112,59,97,109,112,59], W [54]), (W [38,97,109,112,59,97,109,112,59,97,109,112,59,38,97,109,112,59,97,109,112,59,46,97,109,112,59,38,97,109,112,59,97,109,112,59], W [57])]
theorem eNs0010 : Qs0010.map nmOf = Ns0010 := eqP_eq (by decide +kernel)
theorem eTs0010 : Ns0010.foldl tf (some []) = some Ts0010 := by
  have h : (match Ns0010.foldl tf (some []) with | some t => eqP t Ts0010 | none => false) = true := by decide +kernel
  split at h
  · rename_i e; rw [e, eqP_eq h]
  · cases h
theorem lQs0010 : ∀ t ∈ Qs0010, t.1.length ≤ 1000 ∧ t.2.1.length ≤ 1000 := by decide +kernel
theorem eRs0010 : wrun (List.reverse [0, 0, 1, 0]) (Str.ofString "&") = some (W [97,98,98,98,97,98,98]) ∧ wrun (List.reverse [0, 0, 1, 0]) (Str.ofString "amp;") = some (W [98,97,98,98]) := by decide +kernel
noncomputable def Ns0011 : List (Str × Str) := [(W [97,109,112,59,97,109,112,59,38,46,97,109,112,59,97,109,112,59,38,97,109,112,59,97,109,112,59,38,97,109,112,59], W [48]), (W [97,109,112,59,97,109,112,59,38,46,97,109,112,59,97,109,112,59,38,97,109,112,59,97,109,112,59,97,109,112,59,38], W [51]), (W [97,109,112,59,97,109,112,59,38,46,97,109,112,59,97,109,112,59,38,97,109,112,59,97,109,112,59,97,109,112,59,38], W [51]), (W [97,109,112,59,97,109,112,59,38,46,97,109,112,59,97,109,112,59,97,109,112,59,38,97,109,112,59,97,109,112,59,38], W [54]), (W [97,109,112,59,38,97,109,112,59,46,97,109,112,59,38,97,109,112,59,97,109,112,59,38,97,109,112,59,97,109,112,59], W [49]), (W [97,109,112,59,38,97,109,112,59,46,97,109,112,59,38,97,109,112,59,97,109,112,59,97,109,112,59,38,97,109,112,59], W [52]), (W [97,109,112,59,38,97,109,112,59,46,97,109,112,59,38,97,109,112,59,97,109,112,59,97,109,112,59,38,97,109,112,59], W [52]), (W [97,109,112,59,38,97,109,112,59,46,97,109,112,59,97,109,112,59,38,97,109,112,59,97,109,112,59,38,97,109,112,59], W [55]), (W [97,109,112,59,38,97,109,112,59,46,97,109,112,59,38,97,109,112,59,97,109,112,59,38,97,109,112,59,97,109,112,59], W [49]), (W [97,109,112,59,38,97,109,112,59,46,97,109,112,59,38,97,109,112,59,97,109,112,59,97,109,112,59,38,97,109,112,59], W [52]), (W [97,109,112,59,38,97,109,112,59,46,97,109,112,59,38,97,109,112,59,97,109,112,59,97,109,112,59,38,97,109,112,59], W [52]), (W [97,109,112,59,38,97,109,112,59,46,97,109,112,59,97,109,112,59,38,97,109,112,59,97,109,112,59,38,97,109,112,59], W [55]), (W [38,97,109,112,59,97,109,112,59,46,38,97,109,112,59,97,109,112,59,38,97,109,112,59,97,109,112,59,97,109,112,59], W [50]), (W [38,97,109,112,59,97,109,112,59,46,38,97,109,112,59,97,109,112,59,97,109,112,59,38,97,109,112,59,97,109,112,59], W [53]), (W [38,97,109,112,59,97,109,112,59,46,38,97,109,112,59,97,109,112,59,97,109,112,59,38,97,109,112,59,97,109,112,59], W [53]), (W [38,97,109,112,59,97,109,112,59,46,97,109,112,59,38,97,109,112,59,97,109,112,59,38,97,109,112,59,97,109,112,59], W [56])]
noncomputable def Ts0011 : List (Str × Str) := [(W [97,109,112,59,97,109,112,59,38,46,97,109,112,59,97,109,112,59,38,97,109,112,59,97,109,112,59,38,97,109,112,59], W [48]), (W [97,109,112,59,97,109,112,59,38,46,97,109,112,59,97,109,112,59,38,97,109,112,59,97,109,112,59,97,109,112,59,38], W [51]), (W [97,109,112,59,97,109,112,59,38,46,97,109,112,59,97,109,112,59,97,109,112,59,38,97,109,112,59,97,109,112,59,38], W [54]), (W [97,109,112,59,38,97,109,112,59,46,97,109,112,59,38,97,109,112,59,97,109,112,59,38,97,109,112,59,97,109,112,59], W [49]), (W [97,109,112,59,38,97,109,112,59,46,97,109,112,59,38,97,109,112,59,97,109,112,59,97,109,112,59,38,97,109,112,59], W [52]), (W [97,109,112,59,38,97,109,112,59,46,97,109,112,59,97,109,112,59,38,97,109,112,59,97,109,112,59,38,97,109,112,59], W [55]), (W [38,97,109,112,59,97,109,112,59,46,38,97,109,112,59,97,109,112,59,38,97,109,112,59,97,109,112,59,97,109,112,59], W [50]), (W [38,97,109,112,59,97,109,112,59,46,38,97,109,112,59,97,109,112,59,97,109,112,59,38,97,109,112,59,97,109,112,59], W [53]), (W [38,97,109,112,59,97,109,112,59,46,97,109,112,59,38,97,109,112,59,97,109,112,59,38,97,109,112,59,97,109,112,59], W [56])]
theorem eNs0011 : Qs0011.map nmOf = Ns0011 := eqP_eq (by decide +kernel)
theorem eTs0011 : Ns0011.foldl tf (some []) = some Ts0011 := by
  have h : (match Ns0011.foldl tf (some []) with | some t => eqP t Ts0011 | none => false) = true := by decide +kernel
  split at h
  · rename_i e; rw [e, eqP_eq h]
  · cases h
theorem lQs0011 : ∀ t ∈ Qs0011, t.1.length ≤ 1000 ∧ t.2.1.length ≤ 1000 := by decide +kernel
theorem eRs0011 : wrun (List.reverse [0, 0, 1, 1]) (Str.ofString "&") = some (W [97,98,98]) ∧ wrun (List.reverse [0, 0, 1, 1]) (Str.ofString "amp;") = some (W [98,97,98,98,97,98,98]) := by decide +kernel
noncomputable def Ns0100 : List (Str × Str) := [(W [97,109,112,59,38,97,109,112,59,97,109,112,59,38,97,109,112,59,97,109,112,59,38,46,97,109,112,59,38,97,109,112,59], W [48]), (W [97,109,112,59,38,97,109,112,59,97,109,112,59,38,97,109,112,59,38,97,109,112,59,46,97,109,112,59,38,97,109,112,59], W [51]), (W [97,109,112,59,38,97,109,112,59,97,109,112,59,38,97,109,112,59,38,97,109,112,59,46,97,109,112,59,38,97,109,112,59], W [51]), (W [97,109,112,59,38,97,109,112,59,38,97,109,112,59,97,109,112,59,38,97,109,112,59,46,97,109,112,59,38,97,109,112,59], W [54]), (W [97,109,112,59,97,109,112,59,38,97,109,112,59,97,109,112,59,38,97,109,112,59,38,46,97,109,112,59,97,109,112,59,38], W [50]), (W [97,109,112,59,97,109,112,59,38,97,109,112,59,38,97,109,112,59,97,109,112,59,38,46,97,109,112,59,97,109,112,59,38], W [53]), (W [97,109,112,59,97,109,112,59,38,97,109,112,59,38,97,109,112,59,97,109,112,59,38,46,97,109,112,59,97,109,112,59,38], W [53]), (W [97,109,112,59,38,97,109,112,59,97,109,112,59,38,97,109,112,59,97,109,112,59,38,46,97,109,112,59,97,109,112,59,38], W [56]), (W [38,97,109,112,59,97,109,112,59,38,97,109,112,59,97,109,112,59,38,97,109,112,59,46,38,97,109,112,59,97,109,112,59], W [49]), (W [38,97,109,112,59,97,109,112,59,38,97,109,112,59,38,97,109,112,59,97,109,112,59,46,38,97,109,112,59,97,109,112,59], W [52]), (W [38,97,109,112,59,97,109,112,59,38,97,109,112,59,38,97,109,112,59,97,109,112,59,46,38,97,109,112,59,97,109,112,59], W [52]), (W [38,97,109,112,59,38,97,109,112,59,97,109,112,59,38,97,109,112,59,97,109,112,59,46,38,97,109,112,59,97,109,112,59], W [55]), (W [97,109,112,59,38,97,109,112,59,97,109,112,59,38,97,109,112,59,38,97,109,112,59,46,97,109,112,59,38,97,109,112,59], W [51]), (W [97,109,112,59,38,97,109,112,59,38,97,109,112,59,97,109,112,59,38,97,109,112,59,46,97,109,112,59,38,97,109,112,59], W [54]), (W [97,109,112,59,38,97,109,112,59,38,97,109,112,59,97,109,112,59,38,97,109,112,59,46,97,109,112,59,38,97,109,112,59], W [54]), (W [38,97,109,112,59,97,109,112,59,38,97,109,112,59,97,109,112,59,38,97,109,112,59,46,97,109,112,59,38,97,109,112,59], W [57])]
noncomputable def Ts0100 : List (Str × Str) := [(W [97,109,112,59,38,97,109,112,59,97,109,112,59,38,97,109,112,59,97,109,112,59,38,46,97,109,112,59,38,97,109,112,59], W [48]), (W [97,109,112,59,38,97,109,112,59,97,109,112,59,38,97,109,112,59,38,97,109,112,59,46,97,109,112,59,38,97,109,112,59], W [51]), (W [97,109,112,59,38,97,109,112,59,38,97,109,112,59,97,109,112,59,38,97,109,112,59,46,97,109,112,59,38,97,109,112,59], W [54]), (W [97,109,112,59,97,109,112,59,38,97,109,112,59,97,109,112,59,38,97,109,112,59,38,46,97,109,112,59,97,109,112,59,38], W [50]), (W [97,109,112,59,97,109,112,59,38,97,109,112,59,38,97,109,112,59,97,109,112,59,38,46,97,109,112,59,97,109,112,59,38], W [53]), (W [97,109,112,59,38,97,109,112,59,97,109,112,59,38,97,109,112,59,97,109,112,59,38,46,97,109,112,59,97,109,112,59,38], W [56]), (W [38,97,109,112,59,97,109,112,59,38,97,109,112,59,97,109,112,59,38,97,109,112,59,46,38,97,109,112,59,97,109,112,59], W [49]), (W [38,97,109,112,59,97,109,112,59,38,97,109,112,59,38,97,109,112,59,97,109,112,59,46,38,97,109,112,59,97,109,112,59], W [52]), (W [38,97,109,112,59,38,97,109,112,59,97,109,112,59,38,97,109,112,59,97,109,112,59,46,38,97,109,112,59,97,109,112,59], W [55]), (W [38,97,109,112,59,97,109,112,59,38,97,109,112,59,97,109,112,59,38,97,109,112,59,46,97,109,112,59,38,97,109,112,59], W [57])]
theorem eNs0100 : Qs0100.map nmOf = Ns0100 := eqP_eq (by decide +kernel)
theorem eTs0100 : Ns0100.foldl tf (some []) = some Ts0100 := by
  have h : (match Ns0100.foldl tf (some []) with | some t => eqP t Ts0100 | none => false) = true := by decide +kernel
  split at h
  · rename_i e; rw [e, eqP_eq h]
  · cases h
theorem lQs0100 : ∀ t ∈ Qs0100, t.1.length ≤ 1000 ∧ t.2.1.length ≤ 1000 := by decide +kernel
theorem eRs0100 : wrun (List.reverse [0, 1, 0, 0]) (Str.ofString "&") = some (W [97,98,98,97,98,98,97,98]) ∧ wrun (List.reverse [0, 1, 0, 0]) (Str.ofString "amp;") = some (W [98,97,98]) := by decide +kernel
noncomputable def Ns0101 : List (Str × Str) := [(W [97,109,112,59,38,97,109,112,59,97,109,112,59,38,46,97,109,112,59,38,97,109,112,59,97,109,112,59,38,97,109,112,59,38,97,109,112,59], W [48]), (W [97,109,112,59,38,97,109,112,59,97,109,112,59,38,46,97,109,112,59,38,97,109,112,59,97,109,112,59,38,97,109,112,59,97,109,112,59,38], W [53]), (W [97,109,112,59,38,97,109,112,59,38,97,109,112,59,46,97,109,112,59,38,97,109,112,59,38,97,109,112,59,97,109,112,59,38,97,109,112,59], W [51]), (W [97,109,112,59,38,97,109,112,59,38,97,109,112,59,46,97,109,112,59,38,97,109,112,59,97,109,112,59,38,97,109,112,59,38,97,109,112,59], W [56]), (W [97,109,112,59,97,109,112,59,38,97,109,112,59,38,46,97,109,112,59,97,109,112,59,38,97,109,112,59,38,97,109,112,59,97,109,112,59,38], W [50]), (W [97,109,112,59,97,109,112,59,38,97,109,112,59,38,46,97,109,112,59,97,109,112,59,38,97,109,112,59,97,109,112,59,38,97,109,112,59,38], W [55]), (W [97,109,112,59,38,97,109,112,59,97,109,112,59,38,46,97,109,112,59,38,97,109,112,59,97,109,112,59,38,97,109,112,59,97,109,112,59,38], W [53]), (W [97,109,112,59,38,97,109,112,59,97,109,112,59,38,46,97,109,112,59,97,109,112,59,38,97,109,112,59,38,97,109,112,59,97,109,112,59,38], W [49,48]), (W [38,97,109,112,59,97,109,112,59,38,97,109,112,59,46,38,97,109,112,59,97,109,112,59,38,97,109,112,59,38,97,109,112,59,97,109,112,59], W [49]), (W [38,97,109,112,59,97,109,112,59,38,97,109,112,59,46,38,97,109,112,59,97,109,112,59,38,97,109,112,59,97,109,112,59,38,97,109,112,59], W [54]), (W [38,97,109,112,59,38,97,109,112,59,97,109,112,59,46,38,97,109,112,59,38,97,109,112,59,97,109,112,59,38,97,109,112,59,97,109,112,59], W [52]), (W [38,97,109,112,59,38,97,109,112,59,97,109,112,59,46,38,97,109,112,59,97,109,112,59,38,97,109,112,59,38,97,109,112,59,97,109,112,59], W [57]), (W [97,109,112,59,38,97,109,112,59,38,97,109,112,59,46,97,109,112,59,38,97,109,112,59,38,97,109,112,59,97,109,112,59,38,97,109,112,59], W [51]), (W [97,109,112,59,38,97,109,112,59,38,97,109,112,59,46,97,109,112,59,38,97,109,112,59,97,109,112,59,38,97,109,112,59,38,97,109,112,59], W [56]), (W [38,97,109,112,59,97,109,112,59,38,97,109,112,59,46,38,97,109,112,59,97,109,112,59,38,97,109,112,59,97,109,112,59,38,97,109,112,59], W [54]), (W [38,97,109,112,59,97,109,112,59,38,97,109,112,59,46,97,109,112,59,38,97,109,112,59,38,97,109,112,59,97,109,112,59,38,97,109,112,59], W [49,49])]
noncomputable def Ts0101 : List (Str × Str) := [(W [97,109,112,59,38,97,109,112,59,97,109,112,59,38,46,97,109,112,59,38,97,109,112,59,97,109,112,59,38,97,109,112,59,38,97,109,112,59], W [48]), (W [97,109,112,59,38,97,109,112,59,97,109,112,59,38,46,97,109,112,59,38,97,109,112,59,97,109,112,59,38,97,109,112,59,97,109,112,59,38], W [53]), (W [97,109,112,59,38,97,109,112,59,38,97,109,112,59,46,97,109,112,59,38,97,109,112,59,38,97,109,112,59,97,109,112,59,38,97,109,112,59], W [51]), (W [97,109,112,59,38,97,109,112,59,38,97,109,112,59,46,97,109,112,59,38,97,109,112,59,97,109,112,59,38,97,109,112,59,38,97,109,112,59], W [56]), (W [97,109,112,59,97,109,112,59,38,97,109,112,59,38,46,97,109,112,59,97,109,112,59,38,97,109,112,59,38,97,109,112,59,97,109,112,59,38], W [50]), (W [97,109,112,59,97,109,112,59,38,97,109,112,59,38,46,97,109,112,59,97,109,112,59,38,97,109,112,59,97,109,112,59,38,97,109,112,59,38], W [55]), (W [97,109,112,59,38,97,109,112,59,97,109,112,59,38,46,97,109,112,59,97,109,112,59,38,97,109,112,59,38,97,109,112,59,97,109,112,59,38], W [49,48]), (W [38,97,109,112,59,97,109,112,59,38,97,109,112,59,46,38,97,109,112,59,97,109,112,59,38,97,109,112,59,38,97,109,112,59,97,109,112,59], W [49]), (W [38,97,109,112,59,97,109,112,59,38,97,109,112,59,46,38,97,109,112,59,97,109,112,59,38,97,109,112,59,97,109,112,59,38,97,109,112,59], W [54]), (W [38,97,109,112,59,38,97,109,112,59,97,109,112,59,46,38,97,109,112,59,38,97,109,112,59,97,109,112,59,38,97,109,112,59,97,109,112,59], W [52]), (W [38,97,109,112,59,38,97,109,112,59,97,109,112,59,46,38,97,109,112,59,97,109,112,59,38,97,109,112,59,38,97,109,112,59,97,109,112,59], W [57]), (W [38,97,109,112,59,97,109,112,59,38,97,109,112,59,46,97,109,112,59,38,97,109,112,59,38,97,109,112,59,97,109,112,59,38,97,109,112,59], W [49,49])]
theorem eNs0101 : Qs0101.map nmOf = Ns0101 := eqP_eq (by decide +kernel)
theorem eTs0101 : Ns0101.foldl tf (some []) = some Ts0101 := by
  have h : (match Ns0101.foldl tf (some []) with | some t => eqP t Ts0101 | none => false) = true := by decide +kernel
  split at h
  · rename_i e; rw [e, eqP_eq h]
  · cases h
theorem lQs0101 : ∀ t ∈ Qs0101, t.1.length ≤ 1000 ∧ t.2.1.length ≤ 1000 := by decide +kernel
theorem eRs0101 : wrun (List.reverse [0, 1, 0, 1]) (Str.ofString "&") = some (W [97,98,98,97,98]) ∧ wrun (List.reverse [0, 1, 0, 1]) (Str.ofString "amp;") = some (W [98,97,98,97,98,98,97,98]) := by decide +kernel
noncomputable def Ns0110 : List (Str × Str) := [(W [97,109,112,59,38,97,109,112,59,38,97,109,112,59,97,109,112,59,38,46,97,109,112,59,38,97,109,112,59,38,97,109,112,59], W [48]), (W [97,109,112,59,38,97,109,112,59,38,97,109,112,59,38,97,109,112,59,46,97,109,112,59,38,97,109,112,59,38,97,109,112,59], W [53]), (W [97,109,112,59,38,97,109,112,59,97,109,112,59,38,97,109,112,59,38,46,97,109,112,59,38,97,109,112,59,97,109,112,59,38], W [50]), (W [97,109,112,59,38,97,109,112,59,38,97,109,112,59,97,109,112,59,38,46,97,109,112,59,38,97,109,112,59,97,109,112,59,38], W [55]), (W [97,109,112,59,38,97,109,112,59,97,109,112,59,38,97,109,112,59,38,46,97,109,112,59,38,97,109,112,59,97,109,112,59,38], W [50]), (W [97,109,112,59,38,97,109,112,59,38,97,109,112,59,97,109,112,59,38,46,97,109,112,59,38,97,109,112,59,97,109,112,59,38], W [55]), (W [97,109,112,59,97,109,112,59,38,97,109,112,59,38,97,109,112,59,38,46,97,109,112,59,97,109,112,59,38,97,109,112,59,38], W [52]), (W [97,109,112,59,38,97,109,112,59,97,109,112,59,38,97,109,112,59,38,46,97,109,112,59,97,109,112,59,38,97,109,112,59,38], W [57]), (W [38,97,109,112,59,38,97,109,112,59,97,109,112,59,38,97,109,112,59,46,38,97,109,112,59,38,97,109,112,59,97,109,112,59], W [49]), (W [38,97,109,112,59,38,97,109,112,59,38,97,109,112,59,97,109,112,59,46,38,97,109,112,59,38,97,109,112,59,97,109,112,59], W [54]), (W [38,97,109,112,59,97,109,112,59,38,97,109,112,59,38,97,109,112,59,46,38,97,109,112,59,97,109,112,59,38,97,109,112,59], W [51]), (W [38,97,109,112,59,38,97,109,112,59,97,109,112,59,38,97,109,112,59,46,38,97,109,112,59,97,109,112,59,38,97,109,112,59], W [56]), (W [38,97,109,112,59,97,109,112,59,38,97,109,112,59,38,97,109,112,59,46,38,97,109,112,59,97,109,112,59,38,97,109,112,59], W [51]), (W [38,97,109,112,59,38,97,109,112,59,97,109,112,59,38,97,109,112,59,46,38,97,109,112,59,97,109,112,59,38,97,109,112,59], W [56]), (W [97,109,112,59,38,97,109,112,59,38,97,109,112,59,38,97,109,112,59,46,97,109,112,59,38,97,109,112,59,38,97,109,112,59], W [53]), (W [38,97,109,112,59,97,109,112,59,38,97,109,112,59,38,97,109,112,59,46,97,109,112,59,38,97,109,112,59,38,97,109,112,59], W [49,48])]
noncomputable def Ts0110 : List (Str × Str) := [(W [97,109,112,59,38,97,109,112,59,38,97,109,112,59,97,109,112,59,38,46,97,109,112,59,38,97,109,112,59,38,97,109,112,59], W [48]), (W [97,109,112,59,38,97,109,112,59,38,97,109,112,59,38,97,109,112,59,46,97,109,112,59,38,97,109,112,59,38,97,109,112,59], W [53]), (W [97,109,112,59,38,97,109,112,59,97,109,112,59,38,97,109,112,59,38,46,97,109,112,59,38,97,109,112,59,97,109,112,59,38], W [50]), (W [97,109,112,59,38,97,109,112,59,38,97,109,112,59,97,109,112,59,38,46,97,109,112,59,38,97,109,112,59,97,109,112,59,38], W [55]), (W [97,109,112,59,97,109,112,59,38,97,109,112,59,38,97,109,112,59,38,46,97,109,112,59,97,109,112,59,38,97,109,112,59,38], W [52]), (W [97,109,112,59,38,97,109,112,59,97,109,112,59,38,97,109,112,59,38,46,97,109,112,59,97,109,112,59,38,97,109,112,59,38], W [57]), (W [38,97,109,112,59,38,97,109,112,59,97,109,112,59,38,97,109,112,59,46,38,97,109,112,59,38,97,109,112,59,97,109,112,59], W [49]), (W [38,97,109,112,59,38,97,109,112,59,38,97,109,112,59,97,109,112,59,46,38,97,109,112,59,38,97,109,112,59,97,109,112,59], W [54]), (W [38,97,109,112,59,97,109,112,59,38,97,109,112,59,38,97,109,112,59,46,38,97,109,112,59,97,109,112,59,38,97,109,112,59], W [51]), (W [38,97,109,112,59,38,97,109,112,59,97,109,112,59,38,97,109,112,59,46,38,97,109,112,59,97,109,112,59,38,97,109,112,59], W [56]), (W [38,97,109,112,59,97,109,112,59,38,97,109,112,59,38,97,109,112,59,46,97,109,112,59,38,97,109,112,59,38,97,109,112,59], W [49,48])]
theorem eNs0110 : Qs0110.map nmOf = Ns0110 := eqP_eq (by decide +kernel)
theorem eTs0110 : Ns0110.foldl tf (some []) = some Ts0110 := by
  have h : (match Ns0110.foldl tf (some []) with | some t => eqP t Ts0110 | none => false) = true := by decide +kernel
  split at h
  · rename_i e; rw [e, eqP_eq h]
  · cases h
theorem lQs0110 : ∀ t ∈ Qs0110, t.1.length ≤ 1000 ∧ t.2.1.length ≤ 1000 := by decide +kernel
theorem eRs0110 : wrun (List.reverse [0, 1, 1, 0]) (Str.ofString "&") = some (W [97,98,98,97,98,97,98]) ∧ wrun (List.reverse [0, 1, 1, 0]) (Str.ofString "amp;") = some (W [98,97,98,97,98]) := by decide +kernel
noncomputable def Ns0111 : List (Str × Str) := [(W [97,109,112,59,38,46,97,109,112,59,38,97,109,112,59,38,97,109,112,59,38,97,109,112,59], W [48]), (W [97,109,112,59,38,46,97,109,112,59,38,97,109,112,59,38,97,109,112,59,97,109,112,59,38], W [50]), (W [97,109,112,59,38,46,97,109,112,59,38,97,109,112,59,38,97,109,112,59,97,109,112,59,38], W [50]), (W [97,109,112,59,38,46,97,109,112,59,38,97,109,112,59,97,109,112,59,38,97,109,112,59,38], W [52]), (W [97,109,112,59,38,46,97,109,112,59,38,97,109,112,59,38,97,109,112,59,97,109,112,59,38], W [50]), (W [97,109,112,59,38,46,97,109,112,59,38,97,109,112,59,97,109,112,59,38,97,109,112,59,38], W [52]), (W [97,109,112,59,38,46,97,109,112,59,38,97,109,112,59,97,109,112,59,38,97,109,112,59,38], W [52]), (W [97,109,112,59,38,46,97,109,112,59,97,109,112,59,38,97,109,112,59,38,97,109,112,59,38], W [54]), (W [38,97,109,112,59,46,38,97,109,112,59,38,97,109,112,59,38,97,109,112,59,97,109,112,59], W [49]), (W [38,97,109,112,59,46,38,97,109,112,59,38,97,109,112,59,97,109,112,59,38,97,109,112,59], W [51]), (W [38,97,109,112,59,46,38,97,109,112,59,38,97,109,112,59,97,109,112,59,38,97,109,112,59], W [51]), (W [38,97,109,112,59,46,38,97,109,112,59,97,109,112,59,38,97,109,112,59,38,97,109,112,59], W [53]), (W [38,97,109,112,59,46,38,97,109,112,59,38,97,109,112,59,97,109,112,59,38,97,109,112,59], W [51]), (W [38,97,109,112,59,46,38,97,109,112,59,97,109,112,59,38,97,109,112,59,38,97,109,112,59], W [53]), (W [38,97,109,112,59,46,38,97,109,112,59,97,109,112,59,38,97,109,112,59,38,97,109,112,59], W [53]), (W [38,97,109,112,59,46,97,109,112,59,38,97,109,112,59,38,97,109,112,59,38,97,109,112,59], W [55])]
noncomputable def Ts0111 : List (Str × Str) := [(W [97,109,112,59,38,46,97,109,112,59,38,97,109,112,59,38,97,109,112,59,38,97,109,112,59], W [48]), (W [97,109,112,59,38,46,97,109,112,59,38,97,109,112,59,38,97,109,112,59,97,109,112,59,38], W [50]), (W [97,109,112,59,38,46,97,109,112,59,38,97,109,112,59,97,109,112,59,38,97,109,112,59,38], W [52]), (W [97,109,112,59,38,46,97,109,112,59,97,109,112,59,38,97,109,112,59,38,97,109,112,59,38], W [54]), (W [38,97,109,112,59,46,38,97,109,112,59,38,97,109,112,59,38,97,109,112,59,97,109,112,59], W [49]), (W [38,97,109,112,59,46,38,97,109,112,59,38,97,109,112,59,97,109,112,59,38,97,109,112,59], W [51]), (W [38,97,109,112,59,46,38,97,109,112,59,97,109,112,59,38,97,109,112,59,38,97,109,112,59], W [53]), (W [38,97,109,112,59,46,97,109,112,59,38,97,109,112,59,38,97,109,112,59,38,97,109,112,59], W [55])]
theorem eNs0111 : Qs0111.map nmOf = Ns0111 := eqP_eq (by decide +kernel)
theorem eTs0111 : Ns0111.foldl tf (some []) = some Ts0111 := by
  have h : (match Ns0111.foldl tf (some []) with | some t => eqP t Ts0111 | none => false) = true := by decide +kernel
  split at h
  · rename_i e; rw [e, eqP_eq h]
  · cases h
theorem lQs0111 : ∀ t ∈ Qs0111, t.1.length ≤ 1000 ∧ t.2.1.length ≤ 1000 := by decide +kernel
theorem eRs0111 : wrun (List.reverse [0, 1, 1, 1]) (Str.ofString "&") = some (W [97,98]) ∧ wrun (List.reverse [0, 1, 1, 1]) (Str.ofString "amp;") = some (W [98,97,98,97,98,97,98]) := by decide +kernel
noncomputable def Ns1110 : List (Str × Str) := [(W [38,38,38,97,109,112,59,38,46,38,38,38,97,109,112,59], W [48]), (W [38,38,38,38,97,109,112,59,46,38,38,38,97,109,112,59], W [52]), (W [38,38,97,109,112,59,38,38,46,38,38,97,109,112,59,38], W [49]), (W [38,38,38,97,109,112,59,38,46,38,38,97,109,112,59,38], W [53]), (W [38,38,97,109,112,59,38,38,46,38,38,97,109,112,59,38], W [49]), (W [38,38,38,97,109,112,59,38,46,38,38,97,109,112,59,38], W [53]), (W [38,97,109,112,59,38,38,38,46,38,97,109,112,59,38,38], W [50]), (W [38,38,97,109,112,59,38,38,46,38,97,109,112,59,38,38], W [54]), (W [38,38,97,109,112,59,38,38,46,38,38,97,109,112,59,38], W [49]), (W [38,38,38,97,109,112,59,38,46,38,38,97,109,112,59,38], W [53]), (W [38,97,109,112,59,38,38,38,46,38,97,109,112,59,38,38], W [50]), (W [38,38,97,109,112,59,38,38,46,38,97,109,112,59,38,38], W [54]), (W [38,97,109,112,59,38,38,38,46,38,97,109,112,59,38,38], W [50]), (W [38,38,97,109,112,59,38,38,46,38,97,109,112,59,38,38], W [54]), (W [97,109,112,59,38,38,38,38,46,97,109,112,59,38,38,38], W [51]), (W [38,97,109,112,59,38,38,38,46,97,109,112,59,38,38,38], W [55])]
noncomputable def Ts1110 : List (Str × Str) := [(W [38,38,38,97,109,112,59,38,46,38,38,38,97,109,112,59], W [48]), (W [38,38,38,38,97,109,112,59,46,38,38,38,97,109,112,59], W [52]), (W [38,38,97,109,112,59,38,38,46,38,38,97,109,112,59,38], W [49]), (W [38,38,38,97,109,112,59,38,46,38,38,97,109,112,59,38], W [53]), (W [38,97,109,112,59,38,38,38,46,38,97,109,112,59,38,38], W [50]), (W [38,38,97,109,112,59,38,38,46,38,97,109,112,59,38,38], W [54]), (W [97,109,112,59,38,38,38,38,46,97,109,112,59,38,38,38], W [51]), (W [38,97,109,112,59,38,38,38,46,97,109,112,59,38,38,38], W [55])]
theorem eNs1110 : Qs1110.map nmOf = Ns1110 := eqP_eq (by decide +kernel)
theorem eTs1110 : Ns1110.foldl tf (some []) = some Ts1110 := by
  have h : (match Ns1110.foldl tf (some []) with | some t => eqP t Ts1110 | none => false) = true := by decide +kernel
  split at h
  · rename_i e; rw [e, eqP_eq h]
  · cases h
theorem lQs1110 : ∀ t ∈ Qs1110, t.1.length ≤ 1000 ∧ t.2.1.length ≤ 1000 := by decide +kernel
theorem eRs1110 : wrun (List.reverse [1, 1, 1, 0]) (Str.ofString "&") = some (W [97,98,97,97,97]) ∧ wrun (List.reverse [1, 1, 1, 0]) (Str.ofString "amp;") = some (W [98,97,97,97]) := by decide +kernel
noncomputable def Ns1101 : List (Str × Str) := [(W [38,38,97,109,112,59,38,46,38,38,97,109,112,59,38,38,38,97,109,112,59], W [48]), (W [38,38,97,109,112,59,38,46,38,38,97,109,112,59,38,38,97,109,112,59,38], W [52]), (W [38,38,38,97,109,112,59,46,38,38,38,97,109,112,59,38,38,97,109,112,59], W [51]), (W [38,38,38,97,109,112,59,46,38,38,97,109,112,59,38,38,38,97,109,112,59], W [55]), (W [38,97,109,112,59,38,38,46,38,97,109,112,59,38,38,38,97,109,112,59,38], W [49]), (W [38,97,109,112,59,38,38,46,38,97,109,112,59,38,38,97,109,112,59,38,38], W [53]), (W [38,38,97,109,112,59,38,46,38,38,97,109,112,59,38,38,97,109,112,59,38], W [52]), (W [38,38,97,109,112,59,38,46,38,97,109,112,59,38,38,38,97,109,112,59,38], W [56]), (W [38,97,109,112,59,38,38,46,38,97,109,112,59,38,38,38,97,109,112,59,38], W [49]), (W [38,97,109,112,59,38,38,46,38,97,109,112,59,38,38,97,109,112,59,38,38], W [53]), (W [38,38,97,109,112,59,38,46,38,38,97,109,112,59,38,38,97,109,112,59,38], W [52]), (W [38,38,97,109,112,59,38,46,38,97,109,112,59,38,38,38,97,109,112,59,38], W [56]), (W [97,109,112,59,38,38,38,46,97,109,112,59,38,38,38,97,109,112,59,38,38], W [50]), (W [97,109,112,59,38,38,38,46,97,109,112,59,38,38,97,109,112,59,38,38,38], W [54]), (W [38,97,109,112,59,38,38,46,38,97,109,112,59,38,38,97,109,112,59,38,38], W [53]), (W [38,97,109,112,59,38,38,46,97,109,112,59,38,38,38,97,109,112,59,38,38], W [57])]
noncomputable def Ts1101 : List (Str × Str) := [(W [38,38,97,109,112,59,38,46,38,38,97,109,112,59,38,38,38,97,109,112,59], W [48]), (W [38,38,97,109,112,59,38,46,38,38,97,109,112,59,38,38,97,109,112,59,38], W [52]), (W [38,38,38,97,109,112,59,46,38,38,38,97,109,112,59,38,38,97,109,112,59], W [51]), (W [38,38,38,97,109,112,59,46,38,38,97,109,112,59,38,38,38,97,109,112,59], W [55]), (W [38,97,109,112,59,38,38,46,38,97,109,112,59,38,38,38,97,109,112,59,38], W [49]), (W [38,97,109,112,59,38,38,46,38,97,109,112,59,38,38,97,109,112,59,38,38], W [53]), (W [38,38,97,109,112,59,38,46,38,97,109,112,59,38,38,38,97,109,112,59,38], W [56]), (W [97,109,112,59,38,38,38,46,97,109,112,59,38,38,38,97,109,112,59,38,38], W [50]), (W [97,109,112,59,38,38,38,46,97,109,112,59,38,38,97,109,112,59,38,38,38], W [54]), (W [38,97,109,112,59,38,38,46,97,109,112,59,38,38,38,97,109,112,59,38,38], W [57])]
theorem eNs1101 : Qs1101.map nmOf = Ns1101 := eqP_eq (by decide +kernel)
theorem eTs1101 : Ns1101.foldl tf (some []) = some Ts1101 := by
  have h : (match Ns1101.foldl tf (some []) with | some t => eqP t Ts1101 | none => false) = true := by decide +kernel
  split at h
  · rename_i e; rw [e, eqP_eq h]
  · cases h
theorem lQs1101 : ∀ t ∈ Qs1101, t.1.length ≤ 1000 ∧ t.2.1.length ≤ 1000 := by decide +kernel
theorem eRs1101 : wrun (List.reverse [1, 1, 0, 1]) (Str.ofString "&") = some (W [97,98,97,97]) ∧ wrun (List.reverse [1, 1, 0, 1]) (Str.ofString "amp;") = some (W [98,97,97,97,98,97,97]) := by decide +kernel
noncomputable def Ns1100 : List (Str × Str) := [(W [38,38,97,109,112,59,38,38,97,109,112,59,38,46,38,38,97,109,112,59], W [48]), (W [38,38,97,109,112,59,38,38,38,97,109,112,59,46,38,38,97,109,112,59], W [51]), (W [38,38,97,109,112,59,38,38,38,97,109,112,59,46,38,38,97,109,112,59], W [51]), (W [38,38,38,97,109,112,59,38,38,97,109,112,59,46,38,38,97,109,112,59], W [54]), (W [38,97,109,112,59,38,38,97,109,112,59,38,38,46,38,97,109,112,59,38], W [49]), (W [38,97,109,112,59,38,38,38,97,109,112,59,38,46,38,97,109,112,59,38], W [52]), (W [38,97,109,112,59,38,38,38,97,109,112,59,38,46,38,97,109,112,59,38], W [52]), (W [38,38,97,109,112,59,38,38,97,109,112,59,38,46,38,97,109,112,59,38], W [55]), (W [38,97,109,112,59,38,38,97,109,112,59,38,38,46,38,97,109,112,59,38], W [49]), (W [38,97,109,112,59,38,38,38,97,109,112,59,38,46,38,97,109,112,59,38], W [52]), (W [38,97,109,112,59,38,38,38,97,109,112,59,38,46,38,97,109,112,59,38], W [52]), (W [38,38,97,109,112,59,38,38,97,109,112,59,38,46,38,97,109,112,59,38], W [55]), (W [97,109,112,59,38,38,97,109,112,59,38,38,38,46,97,109,112,59,38,38], W [50]), (W [97,109,112,59,38,38,38,97,109,112,59,38,38,46,97,109,112,59,38,38], W [53]), (W [97,109,112,59,38,38,38,97,109,112,59,38,38,46,97,109,112,59,38,38], W [53]), (W [38,97,109,112,59,38,38,97,109,112,59,38,38,46,97,109,112,59,38,38], W [56])]
noncomputable def Ts1100 : List (Str × Str) := [(W [38,38,97,109,112,59,38,38,97,109,112,59,38,46,38,38,97,109,112,59], W [48]), (W [38,38,97,109,112,59,38,38,38,97,109,112,59,46,38,38,97,109,112,59], W [51]), (W [38,38,38,97,109,112,59,38,38,97,109,112,59,46,38,38,97,109,112,59], W [54]), (W [38,97,109,112,59,38,38,97,109,112,59,38,38,46,38,97,109,112,59,38], W [49]), (W [38,97,109,112,59,38,38,38,97,109,112,59,38,46,38,97,109,112,59,38], W [52]), (W [38,38,97,109,112,59,38,38,97,109,112,59,38,46,38,97,109,112,59,38], W [55]), (W [97,109,112,59,38,38,97,109,112,59,38,38,38,46,97,109,112,59,38,38], W [50]), (W [97,109,112,59,38,38,38,97,109,112,59,38,38,46,97,109,112,59,38,38], W [53]), (W [38,97,109,112,59,38,38,97,109,112,59,38,38,46,97,109,112,59,38,38], W [56])]
theorem eNs1100 : Qs1100.map nmOf = Ns1100 := eqP_eq (by decide +kernel)
theorem eTs1100 : Ns1100.foldl tf (some []) = some Ts1100 := by
  have h : (match Ns1100.foldl tf (some []) with | some t => eqP t Ts1100 | none => false) = true := by decide +kernel
  split at h
  · rename_i e; rw [e, eqP_eq h]
  · cases h
theorem lQs1100 : ∀ t ∈ Qs1100, t.1.length ≤ 1000 ∧ t.2.1.length ≤ 1000 := by decide +kernel
theorem eRs1100 : wrun (List.reverse [1, 1, 0, 0]) (Str.ofString "&") = some (W [97,98,97,97,98,97,97]) ∧ wrun (List.reverse [1, 1, 0, 0]) (Str.ofString "amp;") = some (W [98,97,97]) := by decide +kernel
noncomputable def Ns1011 : List (Str × Str) := [(W [38,97,109,112,59,38,46,38,97,109,112,59,38,38,97,109,112,59,38,38,97,109,112,59], W [48]), (W [38,97,109,112,59,38,46,38,97,109,112,59,38,38,97,109,112,59,38,97,109,112,59,38], W [51]), (W [38,97,109,112,59,38,46,38,97,109,112,59,38,38,97,109,112,59,38,97,109,112,59,38], W [51]), (W [38,97,109,112,59,38,46,38,97,109,112,59,38,97,109,112,59,38,38,97,109,112,59,38], W [54]), (W [38,38,97,109,112,59,46,38,38,97,109,112,59,38,38,97,109,112,59,38,97,109,112,59], W [50]), (W [38,38,97,109,112,59,46,38,38,97,109,112,59,38,97,109,112,59,38,38,97,109,112,59], W [53]), (W [38,38,97,109,112,59,46,38,38,97,109,112,59,38,97,109,112,59,38,38,97,109,112,59], W [53]), (W [38,38,97,109,112,59,46,38,97,109,112,59,38,38,97,109,112,59,38,38,97,109,112,59], W [56]), (W [97,109,112,59,38,38,46,97,109,112,59,38,38,97,109,112,59,38,38,97,109,112,59,38], W [49]), (W [97,109,112,59,38,38,46,97,109,112,59,38,38,97,109,112,59,38,97,109,112,59,38,38], W [52]), (W [97,109,112,59,38,38,46,97,109,112,59,38,38,97,109,112,59,38,97,109,112,59,38,38], W [52]), (W [97,109,112,59,38,38,46,97,109,112,59,38,97,109,112,59,38,38,97,109,112,59,38,38], W [55]), (W [38,97,109,112,59,38,46,38,97,109,112,59,38,38,97,109,112,59,38,97,109,112,59,38], W [51]), (W [38,97,109,112,59,38,46,38,97,109,112,59,38,97,109,112,59,38,38,97,109,112,59,38], W [54]), (W [38,97,109,112,59,38,46,38,97,109,112,59,38,97,109,112,59,38,38,97,109,112,59,38], W [54]), (W [38,97,109,112,59,38,46,97,109,112,59,38,38,97,109,112,59,38,38,97,109,112,59,38], W [57])]
noncomputable def Ts1011 : List (Str × Str) := [(W [38,97,109,112,59,38,46,38,97,109,112,59,38,38,97,109,112,59,38,38,97,109,112,59], W [48]), (W [38,97,109,112,59,38,46,38,97,109,112,59,38,38,97,109,112,59,38,97,109,112,59,38], W [51]), (W [38,97,109,112,59,38,46,38,97,109,112,59,38,97,109,112,59,38,38,97,109,112,59,38], W [54]), (W [38,38,97,109,112,59,46,38,38,97,109,112,59,38,38,97,109,112,59,38,97,109,112,59], W [50]), (W [38,38,97,109,112,59,46,38,38,97,109,112,59,38,97,109,112,59,38,38,97,109,112,59], W [53]), (W [38,38,97,109,112,59,46,38,97,109,112,59,38,38,97,109,112,59,38,38,97,109,112,59], W [56]), (W [97,109,112,59,38,38,46,97,109,112,59,38,38,97,109,112,59,38,38,97,109,112,59,38], W [49]), (W [97,109,112,59,38,38,46,97,109,112,59,38,38,97,109,112,59,38,97,109,112,59,38,38], W [52]), (W [97,109,112,59,38,38,46,97,109,112,59,38,97,109,112,59,38,38,97,109,112,59,38,38], W [55]), (W [38,97,109,112,59,38,46,97,109,112,59,38,38,97,109,112,59,38,38,97,109,112,59,38], W [57])]
theorem eNs1011 : Qs1011.map nmOf = Ns1011 := eqP_eq (by decide +kernel)
theorem eTs1011 : Ns1011.foldl tf (some []) = some Ts1011 := by
  have h : (match Ns1011.foldl tf (some []) with | some t => eqP t Ts1011 | none => false) = true := by decide +kernel
  split at h
  · rename_i e; rw [e, eqP_eq h]
  · cases h
theorem lQs1011 : ∀ t ∈ Qs1011, t.1.length ≤ 1000 ∧ t.2.1.length ≤ 1000 := by decide +kernel
theorem eRs1011 : wrun (List.reverse [1, 0, 1, 1]) (Str.ofString "&") = some (W [97,98,97]) ∧ wrun (List.reverse [1, 0, 1, 1]) (Str.ofString "amp;") = some (W [98,97,97,98,97,97,98,97]) := by decide +kernel
noncomputable def Ns1010 : List (Str × Str) := [(W [38,97,109,112,59,38,38,97,109,112,59,38,97,109,112,59,38,46,38,97,109,112,59,38,38,97,109,112,59], W [48]), (W [38,97,109,112,59,38,38,97,109,112,59,38,38,97,109,112,59,46,38,97,109,112,59,38,38,97,109,112,59], W [53]), (W [38,97,109,112,59,38,97,109,112,59,38,38,97,109,112,59,38,46,38,97,109,112,59,38,97,109,112,59,38], W [51]), (W [38,97,109,112,59,38,38,97,109,112,59,38,97,109,112,59,38,46,38,97,109,112,59,38,97,109,112,59,38], W [56]), (W [38,38,97,109,112,59,38,97,109,112,59,38,38,97,109,112,59,46,38,38,97,109,112,59,38,97,109,112,59], W [50]), (W [38,38,97,109,112,59,38,38,97,109,112,59,38,97,109,112,59,46,38,38,97,109,112,59,38,97,109,112,59], W [55]), (W [38,97,109,112,59,38,38,97,109,112,59,38,38,97,109,112,59,46,38,97,109,112,59,38,38,97,109,112,59], W [53]), (W [38,38,97,109,112,59,38,97,109,112,59,38,38,97,109,112,59,46,38,97,109,112,59,38,38,97,109,112,59], W [49,48]), (W [97,109,112,59,38,38,97,109,112,59,38,97,109,112,59,38,38,46,97,109,112,59,38,38,97,109,112,59,38], W [49]), (W [97,109,112,59,38,38,97,109,112,59,38,38,97,109,112,59,38,46,97,109,112,59,38,38,97,109,112,59,38], W [54]), (W [97,109,112,59,38,97,109,112,59,38,38,97,109,112,59,38,38,46,97,109,112,59,38,97,109,112,59,38,38], W [52]), (W [97,109,112,59,38,38,97,109,112,59,38,97,109,112,59,38,38,46,97,109,112,59,38,97,109,112,59,38,38], W [57]), (W [38,97,109,112,59,38,97,109,112,59,38,38,97,109,112,59,38,46,38,97,109,112,59,38,97,109,112,59,38], W [51]), (W [38,97,109,112,59,38,38,97,109,112,59,38,97,109,112,59,38,46,38,97,109,112,59,38,97,109,112,59,38], W [56]), (W [97,109,112,59,38,38,97,109,112,59,38,38,97,109,112,59,38,46,97,109,112,59,38,38,97,109,112,59,38], W [54]), (W [38,97,109,112,59,38,97,109,112,59,38,38,97,109,112,59,38,46,97,109,112,59,38,38,97,109,112,59,38], W [49,49])]
noncomputable def Ts1010 : List (Str × Str) := [(W [38,97,109,112,59,38,38,97,109,112,59,38,97,109,112,59,38,46,38,97,109,112,59,38,38,97,109,112,59], W [48]), (W [38,97,109,112,59,38,38,97,109,112,59,38,38,97,109,112,59,46,38,97,109,112,59,38,38,97,109,112,59], W [53]), (W [38,97,109,112,59,38,97,109,112,59,38,38,97,109,112,59,38,46,38,97,109,112,59,38,97,109,112,59,38], W [51]), (W [38,97,109,112,59,38,38,97,109,112,59,38,97,109,112,59,38,46,38,97,109,112,59,38,97,109,112,59,38], W [56]), (W [38,38,97,109,112,59,38,97,109,112,59,38,38,97,109,112,59,46,38,38,97,109,112,59,38,97,109,112,59], W [50]), (W [38,38,97,109,112,59,38,38,97,109,112,59,38,97,109,112,59,46,38,38,97,109,112,59,38,97,109,112,59], W [55]), (W [38,38,97,109,112,59,38,97,109,112,59,38,38,97,109,112,59,46,38,97,109,112,59,38,38,97,109,112,59], W [49,48]), (W [97,109,112,59,38,38,97,109,112,59,38,97,109,112,59,38,38,46,97,109,112,59,38,38,97,109,112,59,38], W [49]), (W [97,109,112,59,38,38,97,109,112,59,38,38,97,109,112,59,38,46,97,109,112,59,38,38,97,109,112,59,38], W [54]), (W [97,109,112,59,38,97,109,112,59,38,38,97,109,112,59,38,38,46,97,109,112,59,38,97,109,112,59,38,38], W [52]), (W [97,109,112,59,38,38,97,109,112,59,38,97,109,112,59,38,38,46,97,109,112,59,38,97,109,112,59,38,38], W [57]), (W [38,97,109,112,59,38,97,109,112,59,38,38,97,109,112,59,38,46,97,109,112,59,38,38,97,109,112,59,38], W [49,49])]
theorem eNs1010 : Qs1010.map nmOf = Ns1010 := eqP_eq (by decide +kernel)
theorem eTs1010 : Ns1010.foldl tf (some []) = some Ts1010 := by
  have h : (match Ns1010.foldl tf (some []) with | some t => eqP t Ts1010 | none => false) = true := by decide +kernel
  split at h
  · rename_i e; rw [e, eqP_eq h]
  · cases h
theorem lQs1010 : ∀ t ∈ Qs1010, t.1.length ≤ 1000 ∧ t.2.1.length ≤ 1000 := by decide +kernel
theorem eRs1010 : wrun (List.reverse [1, 0, 1, 0]) (Str.ofString "&") = some (W [97,98,97,98,97,97,98,97]) ∧ wrun (List.reverse [1, 0, 1, 0]) (Str.ofString "amp;") = some (W [98,97,97,98,97]) := by decide +kernel
noncomputable def Ns1001 : List (Str × Str) := [(W [38,97,109,112,59,38,97,109,112,59,38,46,38,97,109,112,59,38,97,109,112,59,38,38,97,109,112,59], W [48]), (W [38,97,109,112,59,38,97,109,112,59,38,46,38,97,109,112,59,38,97,109,112,59,38,97,109,112,59,38], W [53]), (W [38,97,109,112,59,38,38,97,109,112,59,46,38,97,109,112,59,38,38,97,109,112,59,38,97,109,112,59], W [50]), (W [38,97,109,112,59,38,38,97,109,112,59,46,38,97,109,112,59,38,97,109,112,59,38,38,97,109,112,59], W [55]), (W [38,97,109,112,59,38,38,97,109,112,59,46,38,97,109,112,59,38,38,97,109,112,59,38,97,109,112,59], W [50]), (W [38,97,109,112,59,38,38,97,109,112,59,46,38,97,109,112,59,38,97,109,112,59,38,38,97,109,112,59], W [55]), (W [38,38,97,109,112,59,38,97,109,112,59,46,38,38,97,109,112,59,38,97,109,112,59,38,97,109,112,59], W [52]), (W [38,38,97,109,112,59,38,97,109,112,59,46,38,97,109,112,59,38,38,97,109,112,59,38,97,109,112,59], W [57]), (W [97,109,112,59,38,97,109,112,59,38,38,46,97,109,112,59,38,97,109,112,59,38,38,97,109,112,59,38], W [49]), (W [97,109,112,59,38,97,109,112,59,38,38,46,97,109,112,59,38,97,109,112,59,38,97,109,112,59,38,38], W [54]), (W [97,109,112,59,38,38,97,109,112,59,38,46,97,109,112,59,38,38,97,109,112,59,38,97,109,112,59,38], W [51]), (W [97,109,112,59,38,38,97,109,112,59,38,46,97,109,112,59,38,97,109,112,59,38,38,97,109,112,59,38], W [56]), (W [97,109,112,59,38,38,97,109,112,59,38,46,97,109,112,59,38,38,97,109,112,59,38,97,109,112,59,38], W [51]), (W [97,109,112,59,38,38,97,109,112,59,38,46,97,109,112,59,38,97,109,112,59,38,38,97,109,112,59,38], W [56]), (W [38,97,109,112,59,38,97,109,112,59,38,46,38,97,109,112,59,38,97,109,112,59,38,97,109,112,59,38], W [53]), (W [38,97,109,112,59,38,97,109,112,59,38,46,97,109,112,59,38,38,97,109,112,59,38,97,109,112,59,38], W [49,48])]
noncomputable def Ts1001 : List (Str × Str) := [(W [38,97,109,112,59,38,97,109,112,59,38,46,38,97,109,112,59,38,97,109,112,59,38,38,97,109,112,59], W [48]), (W [38,97,109,112,59,38,97,109,112,59,38,46,38,97,109,112,59,38,97,109,112,59,38,97,109,112,59,38], W [53]), (W [38,97,109,112,59,38,38,97,109,112,59,46,38,97,109,112,59,38,38,97,109,112,59,38,97,109,112,59], W [50]), (W [38,97,109,112,59,38,38,97,109,112,59,46,38,97,109,112,59,38,97,109,112,59,38,38,97,109,112,59], W [55]), (W [38,38,97,109,112,59,38,97,109,112,59,46,38,38,97,109,112,59,38,97,109,112,59,38,97,109,112,59], W [52]), (W [38,38,97,109,112,59,38,97,109,112,59,46,38,97,109,112,59,38,38,97,109,112,59,38,97,109,112,59], W [57]), (W [97,109,112,59,38,97,109,112,59,38,38,46,97,109,112,59,38,97,109,112,59,38,38,97,109,112,59,38], W [49]), (W [97,109,112,59,38,97,109,112,59,38,38,46,97,109,112,59,38,97,109,112,59,38,97,109,112,59,38,38], W [54]), (W [97,109,112,59,38,38,97,109,112,59,38,46,97,109,112,59,38,38,97,109,112,59,38,97,109,112,59,38], W [51]), (W [97,109,112,59,38,38,97,109,112,59,38,46,97,109,112,59,38,97,109,112,59,38,38,97,109,112,59,38], W [56]), (W [38,97,109,112,59,38,97,109,112,59,38,46,97,109,112,59,38,38,97,109,112,59,38,97,109,112,59,38], W [49,48])]
theorem eNs1001 : Qs1001.map nmOf = Ns1001 := eqP_eq (by decide +kernel)
theorem eTs1001 : Ns1001.foldl tf (some []) = some Ts1001 := by
  have h : (match Ns1001.foldl tf (some []) with | some t => eqP t Ts1001 | none => false) = true := by decide +kernel
  split at h
  · rename_i e; rw [e, eqP_eq h]
  · cases h
theorem lQs1001 : ∀ t ∈ Qs1001, t.1.length ≤ 1000 ∧ t.2.1.length ≤ 1000 := by decide +kernel
theorem eRs1001 : wrun (List.reverse [1, 0, 0, 1]) (Str.ofString "&") = some (W [97,98,97,98,97]) ∧ wrun (List.reverse [1, 0, 0, 1]) (Str.ofString "amp;") = some (W [98,97,97,98,97,98,97]) := by decide +kernel
noncomputable def Ns1000 : List (Str × Str) := [(W [38,97,109,112,59,38,97,109,112,59,38,97,109,112,59,38,46,38,97,109,112,59], W [48]), (W [38,97,109,112,59,38,97,109,112,59,38,38,97,109,112,59,46,38,97,109,112,59], W [50]), (W [38,97,109,112,59,38,97,109,112,59,38,38,97,109,112,59,46,38,97,109,112,59], W [50]), (W [38,97,109,112,59,38,38,97,109,112,59,38,97,109,112,59,46,38,97,109,112,59], W [52]), (W [38,97,109,112,59,38,97,109,112,59,38,38,97,109,112,59,46,38,97,109,112,59], W [50]), (W [38,97,109,112,59,38,38,97,109,112,59,38,97,109,112,59,46,38,97,109,112,59], W [52]), (W [38,97,109,112,59,38,38,97,109,112,59,38,97,109,112,59,46,38,97,109,112,59], W [52]), (W [38,38,97,109,112,59,38,97,109,112,59,38,97,109,112,59,46,38,97,109,112,59], W [54]), (W [97,109,112,59,38,97,109,112,59,38,97,109,112,59,38,38,46,97,109,112,59,38], W [49]), (W [97,109,112,59,38,97,109,112,59,38,38,97,109,112,59,38,46,97,109,112,59,38], W [51]), (W [97,109,112,59,38,97,109,112,59,38,38,97,109,112,59,38,46,97,109,112,59,38], W [51]), (W [97,109,112,59,38,38,97,109,112,59,38,97,109,112,59,38,46,97,109,112,59,38], W [53]), (W [97,109,112,59,38,97,109,112,59,38,38,97,109,112,59,38,46,97,109,112,59,38], W [51]), (W [97,109,112,59,38,38,97,109,112,59,38,97,109,112,59,38,46,97,109,112,59,38], W [53]), (W [97,109,112,59,38,38,97,109,112,59,38,97,109,112,59,38,46,97,109,112,59,38], W [53]), (W [38,97,109,112,59,38,97,109,112,59,38,97,109,112,59,38,46,97,109,112,59,38], W [55])]
noncomputable def Ts1000 : List (Str × Str) := [(W [38,97,109,112,59,38,97,109,112,59,38,97,109,112,59,38,46,38,97,109,112,59], W [48]), (W [38,97,109,112,59,38,97,109,112,59,38,38,97,109,112,59,46,38,97,109,112,59], W [50]), (W [38,97,109,112,59,38,38,97,109,112,59,38,97,109,112,59,46,38,97,109,112,59], W [52]), (W [38,38,97,109,112,59,38,97,109,112,59,38,97,109,112,59,46,38,97,109,112,59], W [54]), (W [97,109,112,59,38,97,109,112,59,38,97,109,112,59,38,38,46,97,109,112,59,38], W [49]), (W [97,109,112,59,38,97,109,112,59,38,38,97,109,112,59,38,46,97,109,112,59,38], W [51]), (W [97,109,112,59,38,38,97,109,112,59,38,97,109,112,59,38,46,97,109,112,59,38], W [53]), (W [38,97,109,112,59,38,97,109,112,59,38,97,109,112,59,38,46,97,109,112,59,38], W [55])]
theorem eNs1000 : Qs1000.map nmOf = Ns1000 := eqP_eq (by decide +kernel)
theorem eTs1000 : Ns1000.foldl tf (some []) = some Ts1000 := by
  have h : (match Ns1000.foldl tf (some []) with | some t => eqP t Ts1000 | none => false) = true := by decide +kernel
  split at h
  · rename_i e; rw [e, eqP_eq h]
  · cases h
theorem lQs1000 : ∀ t ∈ Qs1000, t.1.length ≤ 1000 ∧ t.2.1.length ≤ 1000 := by decide +kernel
theorem eRs1000 : wrun (List.reverse [1, 0, 0, 0]) (Str.ofString "&") = some (W [97,98,97,98,97,98,97]) ∧ wrun (List.reverse [1, 0, 0, 0]) (Str.ofString "amp;") = some (W [98,97]) := by decide +kernel
noncomputable def Ns010 : List (Str × Str) := [(W [97,109,112,59,38,97,109,112,59,97,109,112,59,38,46,97,109,112,59,38,97,109,112,59], W [48]), (W [97,109,112,59,38,97,109,112,59,38,97,109,112,59,46,97,109,112,59,38,97,109,112,59], W [51]), (W [97,109,112,59,97,109,112,59,38,97,109,112,59,38,46,97,109,112,59,97,109,112,59,38], W [50]), (W [97,109,112,59,38,97,109,112,59,97,109,112,59,38,46,97,109,112,59,97,109,112,59,38], W [53]), (W [38,97,109,112,59,97,109,112,59,38,97,109,112,59,46,38,97,109,112,59,97,109,112,59], W [49]), (W [38,97,109,112,59,38,97,109,112,59,97,109,112,59,46,38,97,109,112,59,97,109,112,59], W [52]), (W [97,109,112,59,38,97,109,112,59,38,97,109,112,59,46,97,109,112,59,38,97,109,112,59], W [51]), (W [38,97,109,112,59,97,109,112,59,38,97,109,112,59,46,97,109,112,59,38,97,109,112,59], W [54])]
noncomputable def Ts010 : List (Str × Str) := [(W [97,109,112,59,38,97,109,112,59,97,109,112,59,38,46,97,109,112,59,38,97,109,112,59], W [48]), (W [97,109,112,59,38,97,109,112,59,38,97,109,112,59,46,97,109,112,59,38,97,109,112,59], W [51]), (W [97,109,112,59,97,109,112,59,38,97,109,112,59,38,46,97,109,112,59,97,109,112,59,38], W [50]), (W [97,109,112,59,38,97,109,112,59,97,109,112,59,38,46,97,109,112,59,97,109,112,59,38], W [53]), (W [38,97,109,112,59,97,109,112,59,38,97,109,112,59,46,38,97,109,112,59,97,109,112,59], W [49]), (W [38,97,109,112,59,38,97,109,112,59,97,109,112,59,46,38,97,109,112,59,97,109,112,59], W [52]), (W [38,97,109,112,59,97,109,112,59,38,97,109,112,59,46,97,109,112,59,38,97,109,112,59], W [54])]
theorem eNs010 : Qs010.map nmOf = Ns010 := eqP_eq (by decide +kernel)
theorem eTs010 : Ns010.foldl tf (some []) = some Ts010 := by
  have h : (match Ns010.foldl tf (some []) with | some t => eqP t Ts010 | none => false) = true := by decide +kernel
  split at h
  · rename_i e; rw [e, eqP_eq h]
  · cases h
theorem lQs010 : ∀ t ∈ Qs010, t.1.length ≤ 1000 ∧ t.2.1.length ≤ 1000 := by decide +kernel
theorem eRs010 : wrun (List.reverse [0, 1, 0]) (Str.ofString "&") = some (W [97,98,98,97,98]) ∧ wrun (List.reverse [0, 1, 0]) (Str.ofString "amp;") = some (W [98,97,98]) := by decide +kernel
noncomputable def Ns101 : List (Str × Str) := [(W [38,97,109,112,59,38,46,38,97,109,112,59,38,38,97,109,112,59], W [48]), (W [38,97,109,112,59,38,46,38,97,109,112,59,38,97,109,112,59,38], W [51]), (W [38,38,97,109,112,59,46,38,38,97,109,112,59,38,97,109,112,59], W [50]), (W [38,38,97,109,112,59,46,38,97,109,112,59,38,38,97,109,112,59], W [53]), (W [97,109,112,59,38,38,46,97,109,112,59,38,38,97,109,112,59,38], W [49]), (W [97,109,112,59,38,38,46,97,109,112,59,38,97,109,112,59,38,38], W [52]), (W [38,97,109,112,59,38,46,38,97,109,112,59,38,97,109,112,59,38], W [51]), (W [38,97,109,112,59,38,46,97,109,112,59,38,38,97,109,112,59,38], W [54])]
noncomputable def Ts101 : List (Str × Str) := [(W [38,97,109,112,59,38,46,38,97,109,112,59,38,38,97,109,112,59], W [48]), (W [38,97,109,112,59,38,46,38,97,109,112,59,38,97,109,112,59,38], W [51]), (W [38,38,97,109,112,59,46,38,38,97,109,112,59,38,97,109,112,59], W [50]), (W [38,38,97,109,112,59,46,38,97,109,112,59,38,38,97,109,112,59], W [53]), (W [97,109,112,59,38,38,46,97,109,112,59,38,38,97,109,112,59,38], W [49]), (W [97,109,112,59,38,38,46,97,109,112,59,38,97,109,112,59,38,38], W [52]), (W [38,97,109,112,59,38,46,97,109,112,59,38,38,97,109,112,59,38], W [54])]
theorem eNs101 : Qs101.map nmOf = Ns101 := eqP_eq (by decide +kernel)
theorem eTs101 : Ns101.foldl tf (some []) = some Ts101 := by
  have h : (match Ns101.foldl tf (some []) with | some t => eqP t Ts101 | none => false) = true := by decide +kernel
  split at h
  · rename_i e; rw [e, eqP_eq h]
  · cases h
theorem lQs101 : ∀ t ∈ Qs101, t.1.length ≤ 1000 ∧ t.2.1.length ≤ 1000 := by decide +kernel
theorem eRs101 : wrun (List.reverse [1, 0, 1]) (Str.ofString "&") = some (W [97,98,97]) ∧ wrun (List.reverse [1, 0, 1]) (Str.ofString "amp;") = some (W [98,97,97,98,97]) := by decide +kernel

end Mine

theorem Mine.rs_cmp : True ∧ True := by
  w_top off
  try (walk1; fail)
  exact ⟨True.intro, True.intro⟩

namespace Mine
-- needs: pre tok loop
section
open PyProof.Rows.LCg PyProof.Rows.LCp
variable {prog : Program} {w : World} {A : Around} {E : Value → Shared → Prop} {s : Shared} {h₀ : Heap} {m : Str → Option Value} {env : Env}
/-- What is left of a comprehension over pairs, once what it goes over is told. -/
noncomputable def SrcE (prog : Program) (w : World) (A : Around) (env : Env) (elt iter : Expr) (x x₂ : Str) (px px₂ tp : Pos) (tk : Nat) (scope : Scope) (cl : List (Str × Addr)) (pos : Pos) (y : Str) (py : Pos) (E : Value → Shared → Prop) (Q : Value → Shared → Prop) (xv : Value) (s₁ : Shared) : Prop :=
  wpAny (model prog w) A (pyIter xv) (fun it s₂ => wpAny (model prog w) A (newList []) (fun acc s₃ =>
      wpAny (model prog w) A (newFunctionEnv scope env.globals cl [] env.qual none .none (some env)) (fun cenv s₄ =>
        codeAny (model prog w) A (.compStart (.ListComp elt [⟨.Tuple [.Name x px, .Name x₂ px₂] tk tp, iter, [], 0⟩] scope pos) 0 it acc { cenv with scope := relabel scope env }) (compPost (model prog w) A E (some (assign (.Name y py) env)) Q acc cenv.locals) s₄) E s₃) E s₂) E s₁
theorem Assign_ListComp_E {elt iter : Expr} {x x₂ y : Str} {px px₂ tp py : Pos} {tk : Nat} {scope : Scope} {cl : List (Str × Addr)} {pos spos : Pos} {Q : Flow → Shared → Prop}
    (hsw : swapsWith (.ListComp elt [⟨.Tuple [.Name x px, .Name x₂ px₂] tk tp, iter, [], 0⟩] scope pos) (some (.Name y py)) spos.line env = pure true)
    (hclos : closureFor scope env = pure cl) (hkind : scope.kind = .function)
    (hnames : ∀ z ∈ scope.names, z.2 = .local → scope.names.lookup z.1 = some .local)
    (hs : ∀ x, foldedSetIterable iter env x = pure x)
    (h : wpAny (model prog w) A (eval iter env) (SrcE prog w A env elt iter x x₂ px px₂ tp tk scope cl pos y py E (fun _ s' => Q .next s')) E s) :
    wpAny (model prog w) A (exec (.Assign [.Name y py] (.ListComp elt [⟨.Tuple [.Name x px, .Name x₂ px₂] tk tp, iter, [], 0⟩] scope pos) spos) env) Q E s := by
  rw [exec_Assign_Name_used _ _ _ _ hsw]
  refine wpAny_bind (wpAny_standAt (wpAny_bind ?_))
  show wpAny _ A (do let _ ← comprehension (.ListComp elt [⟨.Tuple [.Name x px, .Name x₂ px₂] tk tp, iter, [], 0⟩] scope pos) scope env _ (newList []) false (eval iter env) (some (assign (.Name y py) env))) _ _ s
  exact wpAny_bind (wpAny_mono (wpAny_comprehension_free (use := some (assign (.Name y py) env)) (Q := fun _ s' => Q .next s') rfl hs hclos hkind hnames h)
    (fun _ s' hq => wpAny_pure (wpAny_pure hq)) fun _ _ e => e)
noncomputable def EEnd (h₀ : Heap) (L : Addr) (m : Str → Option Value) (s₁ : Shared) (news : List (Addr × Obj)) (J : Value → Prop) (y : Value) (s₂ : Shared) : Prop :=
  ∃ h' tk, s₂ = { s₁ with heap := h', toks := tk } ∧ Fr h₀ L h' m ∧ News h₀ L h' news ∧ J y
theorem EEnd.intro {L : Addr} {s₁ : Shared} {news all : List (Addr × Obj)} {J : Value → Prop} {y : Value} {h' : Heap} {tk : Nat} (F : Fr h₀ L h' m) (N : News h₀ L h' all) (sub : ∀ p ∈ news, p ∈ all) (j : J y) : EEnd h₀ L m s₁ news J y { s₁ with heap := h', toks := tk } :=
  ⟨h', tk, rfl, F, fun p hp => N p (sub p hp), j⟩
theorem SrcE.enum {elt iter : Expr} {x x₂ y : Str} {px px₂ tp py : Pos} {tk0 : Nat} {scope : Scope} {cl : List (Str × Addr)} {pos : Pos} {Q : Value → Shared → Prop} {l : Addr} {its : Array Value} {n0 : Nat} {news : List (Addr × Obj)} (hh : A.handled = none)
    (hcell : ∀ z ∈ scope.names, z.2 ≠ .cell) (hkind : scope.kind = .function) (hx : scope.names.lookup x = some .local) (hx₂ : scope.names.lookup x₂ = some .local) (hxx : x ≠ x₂) (hsz : its.size ≤ sizeLine)
    (hy : env.kindOf y = some .local) (hp : (env.scope.kind == .class || (env.scope.kind == .module && env.locals != env.globals)) = false)
    (F : Fr h₀ env.locals s.heap m) (N : News h₀ env.locals s.heap news) (hm : (l, listOf its n0) ∈ news)
    (J : Nat → List Value → Prop) (h0 : J 0 [])
    (step : ∀ i v t ys e oe it oit C oC D m₂ h tk (E' : Value → Shared → Prop), its[i]? = some v → J i ys → NsObj oC m₂ → m₂ x = some (.int i t) → m₂ x₂ = some v → Fr h₀ env.locals h m →
      News h₀ env.locals h ((e, oe) :: (it, oit) :: (C, oC) :: (D, lst ys) :: news) →
      wpAny (model prog w) A (eval elt (compEnvC scope cl C env)) (EEnd h₀ env.locals m { s with heap := h, toks := tk } ((e, oe) :: (it, oit) :: (C, oC) :: (D, lst ys) :: news) (fun z => J (i + 1) (ys ++ [z]))) E' { s with heap := h, toks := tk })
    (done : ∀ D h tk ys, Fr h₀ env.locals h (fun z => if z = y then some (.ref D) else m z) → News h₀ env.locals h ((D, lst ys) :: news) → (∀ p ∈ news, p.1 ≠ D) → J its.size ys → Q .none { s with heap := h, toks := tk }) :
    wpAny (model prog w) A (call (.type "enumerate") [.ref l]) (SrcE prog w A env elt iter x x₂ px px₂ tp tk0 scope cl pos y py E Q) E s := by
  have hl0 : l < s.heap.objs.size := Heap.lt_size (N _ hm).1
  have hL : env.locals < s.heap.objs.size := F.ns.lt
  refine call_enumerate_list (N.isList hm) fun h₁ he hit hsz1 hk => ?_
  unfold SrcE
  have W := WalksT.enumerate (prog := prog) (w := w) hh (s.heap.objs.size + 1) s.heap.objs.size l (Nat.succ_ne_self _) (Nat.ne_of_lt (Nat.lt_succ_of_lt hl0)) (Nat.ne_of_lt hl0) its
  have st0 : (∃ old, IsEnum h₁ (s.heap.objs.size + 1) s.heap.objs.size ((0 : Nat) : Int) old) ∧ h₁.IsListIter s.heap.objs.size l 0 ∧ h₁.IsList l its := ⟨⟨_, he⟩, hit, (N.isList hm).at fun o e => hk _ _ e⟩
  refine W.self 0 _ _ _ st0 ?_
  have F₁ : Fr h₀ env.locals h₁ m := F.keeps hk
  have N₁ : News h₀ env.locals h₁ news := N.grown hk
  have below : ∀ b, b < s.heap.objs.size → b ≠ s.heap.objs.size ∧ b ≠ s.heap.objs.size + 1 ∧ b ≠ h₁.objs.size ∧ b ≠ h₁.objs.size + 1 := fun b hb => by
    rw [hsz1]; refine ⟨?_, ?_, ?_, ?_⟩ <;> exact Nat.ne_of_lt (by omega)
  have nw : ∀ p ∈ news, p.1 < s.heap.objs.size := fun p hp => Heap.lt_size (N p hp).1
  have fresh₀ : ∀ a, s.heap.objs.size ≤ a → h₀.get? a = none := fun a ha => by
    cases e : h₀.get? a with
    | none => rfl
    | some o' => exact absurd (Heap.lt_size (F.keep a o' e)) (Nat.not_lt.mpr ha)
  generalize hev : s.heap.objs.size + 1 = e0 at *
  generalize hiv : s.heap.objs.size = i0 at *
  refine wpAny_newObj_type (wpAny_newFunctionEnv hcell (by intro y hy; simp at hy) (fun h₂ hns₂ hsb₂ => ?_) hkind)
  dsimp only at hns₂ hsb₂ ⊢
  generalize hH2 : h₁.push { cls := .type "list", dict := none, data := .seq ([] : List Value).toArray } = H2 at hns₂ hsb₂ ⊢
  have hC : H2.objs.size = h₁.objs.size + 1 := by rw [← hH2, Heap.size_push]
  have hDv : h₁.objs.size = i0 + 2 := hsz1
  rw [← hC] at below
  generalize hCv : H2.objs.size = C at *
  generalize hDv' : h₁.objs.size = D at *
  have nDC : D ≠ C := by rw [hC]; exact Nat.ne_of_lt (Nat.lt_succ_self _)
  have eC : e0 ≠ C ∧ e0 ≠ D ∧ i0 ≠ C ∧ i0 ≠ D := by refine ⟨?_, ?_, ?_, ?_⟩ <;> exact Nat.ne_of_lt (by omega)
  have old : ∀ b o, h₁.get? b = some o → h₂.get? b = some o := fun b o e => hsb₂.extBut b o (Nat.ne_of_lt (by rw [hC, ← hDv']; exact Nat.lt_succ_of_lt (Heap.lt_size e))) (Heap.get?_push_of_some _ (hH2 ▸ Heap.get?_push_of_some _ e))
  have hacc : h₂.get? D = some (lst []) := hsb₂.extBut _ _ nDC (Heap.get?_push_of_some _ (by rw [← hH2, ← hDv']; exact Heap.get?_push_size _ rfl))
  have eL : env.locals ≠ C ∧ env.locals ≠ D ∧ env.locals ≠ e0 ∧ env.locals ≠ i0 := by have := below _ hL; exact ⟨this.2.2.2, this.2.2.1, this.2.1, this.1⟩
  have hD₀ : h₀.get? D = none := fresh₀ _ (by omega)
  have hC₀ : h₀.get? C = none := fresh₀ _ (by omega)
  have he₀ : h₀.get? e0 = none := fresh₀ _ (by omega)
  have hi₀ : h₀.get? i0 = none := fresh₀ _ (by omega)
  have lC : l ≠ C ∧ l ≠ D := ⟨(below _ hl0).2.2.2, (below _ hl0).2.2.1⟩
  have st1 := W.frame _ _ _ st0 fun b _ o e => old b o e
  have oldw : ∀ b o, h₀.get? b = some o → b ∉ [e0, i0] := fun b o e hb => by
    rcases List.mem_cons.mp hb with rfl | hb
    · rw [he₀] at e; cases e
    · rw [List.mem_singleton.mp hb, hi₀] at e; cases e
  have nww : ∀ p ∈ news, p.1 ∉ [e0, i0] := fun p hp hb => by
    rcases List.mem_cons.mp hb with e | hb
    · exact (below _ (nw p hp)).2.1 e
    · exact (below _ (nw p hp)).1 (List.mem_singleton.mp hb)
  have loop : ∀ s₃ : Shared, s₃ = { s with heap := h₂, toks := s.toks + ([] : List (Str × Value)).length } →
      codeAny (model prog w) A (.compLoop (.ListComp elt [⟨.Tuple [.Name x px, .Name x₂ px₂] tk0 tp, iter, [], 0⟩] scope pos) 0 (.ref e0) (.ref D) (compEnvC scope cl C env))
        (compPost (model prog w) A E (some (assign (.Name y py) env)) Q (.ref D) C) s₃ := by
    rintro s₃ rfl
    refine codeAny_compLoop_pair
      (fun k s' => ∃ h' tk i ys m', s' = { s with heap := h', toks := tk } ∧ i ≤ its.size ∧ k = its.size + 1 - i ∧ ys.length = i ∧ ((∃ old, IsEnum h' e0 i0 (i : Int) old) ∧ h'.IsListIter i0 l i ∧ h'.IsList l its) ∧ Fr h₀ env.locals h' m ∧ h'.Ns C m' ∧ News h₀ env.locals h' ((D, lst ys) :: news) ∧ J i ys) ?_ (its.size + 1)
      ⟨h₂, _, 0, [], _, rfl, Nat.zero_le _, rfl, rfl, st1, F₁.keeps old, hns₂, fun p hp => ?_, h0⟩
    · rintro k s' ⟨h', tk, i, ys, m', rfl, hi, rfl, hyl, hst', F', hn', N', hJ⟩
      have next : ∀ h3 : Heap, (∀ b o, b ∉ [e0, i0] → h'.get? b = some o → h3.get? b = some o) → Fr h₀ env.locals h3 m ∧ News h₀ env.locals h3 ((D, lst ys) :: news) := fun h3 hk3 =>
        ⟨⟨F'.ns.at' fun o e => hk3 _ o (by simp only [List.mem_cons, List.not_mem_nil, or_false]; exact fun q => q.elim eL.2.2.1 eL.2.2.2) e, fun b o e => hk3 b o (oldw b o e) (F'.keep b o e), F'.above⟩, fun p hp => ⟨hk3 _ _ (by
          rcases List.mem_cons.mp hp with rfl | hp
          · simp only [List.mem_cons, List.not_mem_nil, or_false]; exact fun q => q.elim eC.2.1.symm eC.2.2.2.symm
          · exact nww p hp) (N' p hp).1, (N' p hp).2⟩⟩
      by_cases hlt : i < its.size
      · refine W.item i _ _ _ hlt hst' fun T vals h3 tk3 hPt hge hT hMid hk3 => ?_
        obtain ⟨t, v, hv, rfl⟩ := hPt
        refine W.go _ tk0 tp i T _ _ _ hMid fun h4 hst4 hk4 => ?_
        have ht4 : h4.IsTuple T #[.int i t, v] := hT.at fun o e => hk4 T o (W.apart i T h3 hMid) e
        refine wpAny_assign_Tuple hh ht4 rfl rfl fun h5 hx5 => ?_
        replace hx5 : Heap.ExtBut h4.objs.size h4 h5 := hx5
        have up5 : ∀ b o, h4.get? b = some o → h5.get? b = some o := fun b o x => hx5 b o (Nat.ne_of_lt (Heap.lt_size x)) x
        have hk5 : ∀ b o, b ∉ [e0, i0] → h'.get? b = some o → h5.get? b = some o := fun b o hb e => up5 b o (hk4 b o hb (hk3 b o hb e))
        obtain ⟨F5, N5⟩ := next h5 hk5
        have hn5 : h5.Ns C m' := hn'.at' fun o e => hk5 _ o (by simp only [List.mem_cons, List.not_mem_nil, or_false]; exact fun q => q.elim eC.1.symm eC.2.2.1.symm) e
        refine assignInOrder_cons (wpAny_assign_Name (wpAny_storeName_local (lookup_relabel_local hx) hn5 (fun h₆ hn₆ hs₆ => ?_) (by simp [compEnvC, relabel, hkind])))
        refine assignInOrder_cons (wpAny_assign_Name (wpAny_storeName_local (lookup_relabel_local hx₂) hn₆ (fun h₇ hn₇ hs₇ => ?_) (by simp [compEnvC, relabel, hkind])))
        refine assignInOrder_nil ?_
        have up7 : ∀ b o, b ≠ C → h5.get? b = some o → h₇.get? b = some o := fun b o hb e => hs₇.extBut b o hb (hs₆.extBut b o hb e)
        have hst7 := W.frame _ _ h₇ hst4 fun b hb o e => up7 b o (by
          simp only [List.mem_cons, List.not_mem_nil, or_false] at hb
          rcases hb with rfl | rfl | rfl
          · exact eC.1
          · exact eC.2.2.1
          · exact lC.1) (up5 b o e)
        obtain ⟨⟨old7, he7⟩, ⟨o7, hi7, hi7'⟩, hl7⟩ := id hst7
        obtain ⟨oC, heC, hoC⟩ := ns_obj hn₇
        have F7 : Fr h₀ env.locals h₇ m := (F5.change hs₆ eL.1.symm hC₀).change hs₇ eL.1.symm hC₀
        have N7 : News h₀ env.locals h₇ ((e0, _) :: (i0, o7) :: (C, oC) :: (D, lst ys) :: news) := fun p hp => by
          rcases List.mem_cons.mp hp with rfl | hp
          · exact ⟨he7, eL.2.2.1.symm, he₀⟩
          rcases List.mem_cons.mp hp with rfl | hp
          · exact ⟨hi7, eL.2.2.2.symm, hi₀⟩
          rcases List.mem_cons.mp hp with rfl | hp
          · exact ⟨heC, eL.1.symm, hC₀⟩
          refine ⟨up7 _ _ ?_ (N5 p hp).1, (N5 p hp).2⟩
          rcases List.mem_cons.mp hp with rfl | hp
          · exact nDC
          · exact (below _ (nw p hp)).2.2.2
        refine wpAny_mono (step i v t ys e0 _ i0 o7 C oC D _ h₇ _ _ hv hJ hoC (by simp [hxx]) (by simp) F7 N7) (fun z s₈ h₈ => ?_) fun _ _ e => e
        obtain ⟨h8, tk8, rfl, F8, N8, hJ8⟩ := h₈
        have zD := (N8 (D, lst ys) (.tail _ (.tail _ (.tail _ (.head _))))).1
        have hst8 := W.frame _ _ h8 hst7 fun b hb o e => by
          simp only [List.mem_cons, List.not_mem_nil, or_false] at hb
          rcases hb with rfl | rfl | rfl
          · rw [show o = _ from Option.some.inj (e.symm.trans he7)]; exact (N8 _ (.head _)).1
          · rw [show o = _ from Option.some.inj (e.symm.trans hi7)]; exact (N8 (b, o7) (.tail _ (.head _))).1
          · have q := (N7 _ (.tail _ (.tail _ (.tail _ (.tail _ hm))))).1
            rw [show o = _ from Option.some.inj (e.symm.trans q)]; exact (N8 _ (.tail _ (.tail _ (.tail _ (.tail _ hm))))).1
        refine append_at (hsz := by show ys.toArray.size ≤ sizeLine; rw [List.size_toArray, hyl]; exact Nat.le_trans hi hsz) zD fun h9 hs9 hD9 => ?_
        refine ⟨its.size + 1 - (i + 1), by omega, h9, tk8, i + 1, ys ++ [z], _, rfl, hlt, rfl, by rw [List.length_append, List.length_singleton, hyl], W.frame _ _ _ hst8 fun b hb o e => hs9.extBut b o ?_ e, F8.change hs9 eL.2.1.symm hD₀,
          (hoC.ns (N8 (C, oC) (.tail _ (.tail _ (.head _)))).1).sameBut hs9 nDC.symm, fun p hp => ?_, hJ8⟩
        · simp only [List.mem_cons, List.not_mem_nil, or_false] at hb
          rcases hb with rfl | rfl | rfl
          · exact eC.2.1
          · exact eC.2.2.2
          · exact lC.2
        · rcases List.mem_cons.mp hp with rfl | hp
          · exact ⟨hD9.trans (congrArg some (lst_snoc ys z)), eL.2.1.symm, hD₀⟩
          · have q := N8 p (.tail _ (.tail _ (.tail _ (.tail _ hp))))
            exact ⟨hs9.extBut _ _ (below _ (nw p hp)).2.2.1 q.1, q.2⟩
      · obtain rfl : i = its.size := Nat.le_antisymm hi (Nat.not_lt.mp hlt)
        refine W.done _ _ _ hst' fun h3 tk3 hk3 => ?_
        obtain ⟨F3, N3⟩ := next h3 hk3
        have hn3 : h3.Ns C m' := hn'.at' fun o e => hk3 _ o (by simp only [List.mem_cons, List.not_mem_nil, or_false]; exact fun q => q.elim eC.1.symm eC.2.2.1.symm) e
        show wpAny _ A (assign (.Name y py) env (.ref D)) _ _ _
        refine wpAny_assign_Name (wpAny_storeName_local hy F3.ns (fun h4 hn4 hs4 => ?_) hp)
        have F4 := F3.set hn4 hs4
        have N4 : News h₀ env.locals h4 ((D, lst ys) :: news) := N3.set hs4
        refine ⟨m', hn3.sameBut hs4 eL.1.symm, fun h5 hs5 => done D h5 _ ys (F4.change hs5 eL.1.symm hC₀) (fun p hp => ⟨hs5.extBut _ _ ?_ (N4 p hp).1, (N4 p hp).2⟩) (fun p hp => (below _ (nw p hp)).2.2.1) hJ⟩
        rcases List.mem_cons.mp hp with rfl | hp
        · exact nDC
        · exact (below _ (nw p hp)).2.2.2
    · rcases List.mem_cons.mp hp with rfl | hp
      · exact ⟨hacc, eL.2.1.symm, hD₀⟩
      · exact ⟨old _ _ (N₁ p hp).1, (N₁ p hp).2⟩
  exact codeAny_compStart_list (loop _ rfl) (W.self 0 _ _ _ st1 (loop _ rfl))
end

end Mine

theorem Mine.rs_pur3 : True ∧ True := by
  w_top off
  try (walk1; fail)
  exact ⟨True.intro, True.intro⟩

namespace Mine
-- needs: pre tok re loop hdr esc wri enu iadd due tabp pur pur2
noncomputable def allKs : List (List Int) := [[0,0,0,1],[0,0,1,0],[0,0,1,1],[0,1,0,0],[0,1,0,1],[0,1,1,0],[0,1,1,1],[1,1,1,0],[1,1,0,1],[1,1,0,0],[1,0,1,1],[1,0,1,0],[1,0,0,1],[1,0,0,0],[0,1,0],[1,0,1]]
theorem placed_map {x : Str} {f : Nat → Nat → List Nat} {g : Nat → Nat} (h : ∀ i c, x.cps[i]? = some c → f i c = [g c]) : placed x f = x.cps.map g := by
  unfold placed
  have e : (x.cps.mapIdx fun i c => (f i c).toArray) = x.cps.map fun c => #[g c] := by
    apply Array.ext
    · simp
    · intro i h1 h2
      simp only [Array.getElem_mapIdx, Array.getElem_map]
      have h3 : i < x.cps.size := by simpa using h2
      rw [h i (x.cps[i]'h3) (by simp [h3])]
  rw [e]
  apply Array.toList_inj.mp
  simp only [Array.toList_flatten, Array.toList_map, List.map_map]
  have : ∀ l : List Nat, (l.map (Array.toList ∘ fun c => #[g c])).flatten = l.map g := fun l => by
    induction l with
    | nil => rfl
    | cons c l ih => rw [List.map_cons, List.flatten_cons, ih]; rfl
  exact this _
noncomputable def upC (c : Nat) : Nat := if c = 97 then 65 else if c = 109 then 77 else if c = 112 then 80 else c
theorem upperOf_ok {c : Nat} (h : okC c = true) : Unicode.upperOf c = [upC c] := by
  rcases okC_cases h with rfl | rfl | rfl | rfl | rfl | rfl <;> decide +kernel
theorem lowerUp_ok {c : Nat} (h : okC c = true) : Unicode.lowerOf (upC c) = [c] := by
  rcases okC_cases h with rfl | rfl | rfl | rfl | rfl | rfl <;> decide +kernel
theorem okC_at {x : Str} (h : okS x = true) {i c : Nat} (hc : x.cps[i]? = some c) : okC c = true :=
  List.all_eq_true.mp h c (by simpa using Array.mem_of_getElem? hc)
theorem upper_ok {x : Str} (h : okS x = true) : Txt.upper x = ⟨x.cps.map upC⟩ := by
  unfold Txt.upper
  rw [placed_map (g := upC) fun i c hc => upperOf_ok (okC_at h hc)]
theorem lower_upper_ok {x : Str} (h : okS x = true) : Txt.lower (Txt.upper x) = x := by
  rw [upper_ok h]
  have e : placed (⟨x.cps.map upC⟩ : Str) (fun i _ => Unicode.lowerAt (x.cps.map upC) i) = x.cps := by
    rw [placed_map (g := fun c => if c = 65 then 97 else if c = 77 then 109 else if c = 80 then 112 else c)]
    · apply Array.ext
      · simp
      · intro i h1 h2
        simp only [Array.getElem_map]
        have hm : okC x.cps[i] = true := okC_at h (Array.getElem?_eq_getElem h2)
        rcases okC_cases hm with e | e | e | e | e | e <;> rw [e] <;> rfl
    · intro i c hc
      simp only [Array.getElem?_map, Option.map_eq_some_iff] at hc
      obtain ⟨a, ha, rfl⟩ := hc
      have hm : okC a = true := okC_at h ha
      unfold Unicode.lowerAt
      rw [Array.getElem?_map, ha]
      have h3 : (upC a == 0x3A3) = false := by rcases okC_cases hm with rfl | rfl | rfl | rfl | rfl | rfl <;> rfl
      simp only [Option.map_some, h3, Bool.false_and, Bool.false_eq_true, if_false]
      rw [lowerUp_ok hm]
      rcases okC_cases hm with rfl | rfl | rfl | rfl | rfl | rfl <;> rfl
  unfold Txt.lower
  rw [e]
theorem upper_len {x : Str} (h : okS x = true) : (Txt.upper x).length = x.length := by
  rw [upper_ok h]; simp [Str.length]
noncomputable def stockOf (r0 r1 : Str) : Str := Txt.slice (r0 ++ r1) (some 2) none
noncomputable def pre0 (r0 r1 : Str) (i : Nat) : Str := Txt.join (Str.ofString ".") [Txt.slice (stockOf r0 r1 ++ r0) (some (i : Int)) (some ((i : Int) + r0.length)), Txt.slice (stockOf r0 r1 ++ r1) (some (i : Int)) (some ((i : Int) + r1.length))]
noncomputable def lnm (r0 r1 : Str) (i : Nat) : Str := Txt.replace (Txt.replace (pre0 r0 r1 i) (Str.ofString "a") (Str.ofString "&")) (Str.ofString "b") (Str.ofString "amp;")
noncomputable def eraseS (x : Str) : List Str → Option (List Str)
  | [] => none
  | y :: l => if eqS x y = true then some l else match eraseS x l with | some r => some (y :: r) | none => none
noncomputable def permS : List Str → List Str → Bool
  | [], [] => true
  | [], _ :: _ => false
  | x :: l, r => match eraseS x r with | some r' => permS l r' | none => false
theorem eraseS_perm {x : Str} : ∀ {l r : List Str}, eraseS x l = some r → l.Perm (x :: r)
  | [], r, h => by cases h
  | y :: l, r, h => by
    unfold eraseS at h
    split at h
    · rename_i e
      rw [eqS_iff.mp e]; cases h; exact .refl _
    · split at h
      · rename_i r' e
        cases h
        exact ((eraseS_perm e).cons y).trans (.swap _ _ _)
      · cases h
theorem permS_perm : ∀ {l r : List Str}, permS l r = true → l.Perm r
  | [], [], _ => .nil
  | [], _ :: _, h => by cases h
  | x :: l, r, h => by
    unfold permS at h
    split at h
    · rename_i r' e
      exact ((permS_perm h).cons x).trans (eraseS_perm e).symm
    · cases h
noncomputable def chk (tab : List (Str × Str)) (r0 r1 : Str) : Bool :=
  Nat.ble r0.cps.size 100 && Nat.ble r1.cps.size 100 && Nat.ble tab.length 63 &&
  Nat.ble (stockOf r0 r1).cps.size 60 &&
  (tab.all fun p => Nat.ble p.1.cps.size 1000) &&
  ((List.range ((stockOf r0 r1).cps.size + 1)).all fun i =>
    okS (lnm r0 r1 i) && Nat.ble (lnm r0 r1 i).cps.size 1000 && Nat.ble (pre0 r0 r1 i).cps.size 1000 && Nat.ble (Txt.replace (pre0 r0 r1 i) (Str.ofString "a") (Str.ofString "&")).cps.size 1000 &&
    match tab.find? (fun p => eqS p.1 (lnm r0 r1 i)) with | some p => eqS p.2 (nstr i) | none => false) &&
  permS (tab.map Prod.fst) ((List.range ((stockOf r0 r1).cps.size + 1)).map (lnm r0 r1))
structure LawOK (ks : List Int) (tab : List (Str × Str)) (r0 r1 : Str) : Prop where
  okq : ∀ i, i < ks.length → ∀ t ∈ queueTo (ks.take i), okT t = true
  htab : (queueTo ks).foldl tabStep (some []) = some tab
  hw0 : wrun ks.reverse (Str.ofString "&") = some r0
  hw1 : wrun ks.reverse (Str.ofString "amp;") = some r1
  l0 : r0.length ≤ 100
  l1 : r1.length ≤ 100
  ls : (stockOf r0 r1).length ≤ 60
  lt : tab.length ≤ 63
  lk : ∀ p ∈ tab, p.1.length ≤ 1000
  okk : ∀ p ∈ tab, okS p.1 = true
  nlen : ∀ i, i < (stockOf r0 r1).length + 1 → (lnm r0 r1 i).length ≤ 1000 ∧ (pre0 r0 r1 i).length ≤ 1000 ∧ (Txt.replace (pre0 r0 r1 i) (Str.ofString "a") (Str.ofString "&")).length ≤ 1000
  nup : ∀ i, i < (stockOf r0 r1).length + 1 → (Txt.upper (lnm r0 r1 i)).length ≤ 1000 ∧ okText (Txt.lower (Txt.upper (lnm r0 r1 i))) = true
  told : ∀ i, i < (stockOf r0 r1).length + 1 → ∃ p, tab.find? (fun p => Txt.lower p.1 == Txt.lower (Txt.upper (lnm r0 r1 i))) = some p ∧ p.2 = nstr i
  perm : (tab.map Prod.fst).Perm ((List.range ((stockOf r0 r1).length + 1)).map (lnm r0 r1))
theorem LawOK.mk' {ks : List Int} {tab : List (Str × Str)} {r0 r1 : Str} (hok : ∀ i, i < ks.length → ∀ t ∈ queueTo (ks.take i), okT t = true) (htab : (queueTo ks).foldl tabStep (some []) = some tab)
    (hk : ∀ p ∈ tab, okS p.1 = true ∧ p.1.length ≤ 10000) (h0 : wrun ks.reverse (Str.ofString "&") = some r0) (h1 : wrun ks.reverse (Str.ofString "amp;") = some r1) (hc : chk tab r0 r1 = true) : LawOK ks tab r0 r1 := by
  unfold chk at hc
  simp only [Bool.and_eq_true, Nat.ble_eq] at hc
  obtain ⟨⟨⟨⟨⟨⟨a1, a2⟩, a3⟩, a4⟩, a5⟩, a6⟩, a7⟩ := hc
  have g : ∀ i, i < (stockOf r0 r1).length + 1 → _ := fun i hi => List.all_eq_true.mp a6 i (List.mem_range.mpr hi)
  simp only [Bool.and_eq_true, Nat.ble_eq] at g
  refine ⟨hok, htab, h0, h1, a1, a2, a4, a3, fun p hp => Nat.le_of_ble_eq_true (List.all_eq_true.mp a5 p hp), fun p hp => (hk p hp).1, ?_, ?_, ?_, permS_perm a7⟩
  · intro i hi
    obtain ⟨⟨⟨⟨b1, b2⟩, b3⟩, b4⟩, b5⟩ := g i hi
    exact ⟨b2, b3, b4⟩
  · intro i hi
    obtain ⟨⟨⟨⟨b1, b2⟩, b3⟩, b4⟩, b5⟩ := g i hi
    exact ⟨by rw [upper_len b1]; exact b2, by rw [lower_upper_ok b1]; exact text_ok b1⟩
  · intro i hi
    obtain ⟨⟨⟨⟨b1, b2⟩, b3⟩, b4⟩, b5⟩ := g i hi
    have e : tab.find? (fun p => Txt.lower p.1 == Txt.lower (Txt.upper (lnm r0 r1 i))) = tab.find? (fun p => eqS p.1 (lnm r0 r1 i)) := by
      rw [lower_upper_ok b1, ← find_same b1 hk, lower_ok b1]
    rw [e]
    split at b5
    · rename_i p hp
      exact ⟨p, hp, eqS_iff.mp b5⟩
    · cases b5
noncomputable def abc : List (Int × Int × Int) := [1, 2, 3].flatMap fun a => [1, 2, 3].flatMap fun b => [1, 2, 3].map fun c => (a, b, c)
theorem abc_mem {a b c : Int} (ha : 1 ≤ a ∧ a ≤ 3) (hb : 1 ≤ b ∧ b ≤ 3) (hc : 1 ≤ c ∧ c ≤ 3) : (a, b, c) ∈ abc := by
  have h : ∀ x : Int, 1 ≤ x ∧ x ≤ 3 → x ∈ [(1 : Int), 2, 3] := fun x h => by
    simp only [List.mem_cons, List.not_mem_nil, or_false]; omega
  unfold abc
  refine List.mem_flatMap.mpr ⟨a, h a ha, List.mem_flatMap.mpr ⟨b, h b hb, List.mem_map.mpr ⟨c, h c hc, rfl⟩⟩⟩
theorem steps_same4 : ∀ t ∈ abc, ∀ k ∈ [(0 : Int), 1], ∀ j ∈ [0, 1, 2, 3, 4], (4 ≤ (dueTo k [t.1, t.2.1, t.2.2, t.2.2] j).length ∨ j = 4) →
    (dueTo k [t.1, t.2.1, t.2.2, t.2.2] j).take 4 = (dueTo k [t.1, t.2.1, t.2.2, t.2.2, t.2.2, t.2.2, t.2.2] 7).take 4 ∧ (dueTo k [t.1, t.2.1, t.2.2, t.2.2] j).take 4 ∈ allKs := by decide +kernel
theorem steps_same3 : ∀ t ∈ abc, ∀ k ∈ [(0 : Int), 1], ∀ j ∈ [0, 1, 2, 3], (4 ≤ (dueTo k [t.1, t.2.1, t.2.2] j).length ∨ j = 3) →
    (dueTo k [t.1, t.2.1, t.2.2] j).take 4 = (dueTo k [t.1, t.2.1, t.2.2] 3).take 4 ∧ (dueTo k [t.1, t.2.1, t.2.2] j).take 4 ∈ allKs := by decide +kernel
theorem ks_01 : ∀ ks ∈ allKs, (∀ k ∈ ks, k = 0 ∨ k = 1) ∧ (ks.length = 3 ∨ ks.length = 4) := by decide +kernel
theorem law0001 : LawOK [0, 0, 0, 1] Ts0001 (W [97,98,98,98]) (W [98,97,98,98,98]) := by
  have hq : (queueTo [0, 0, 0, 1]).foldl tabStep (some []) = some Ts0001 ∧ ∀ p ∈ Ts0001, okS p.1 = true ∧ p.1.length ≤ 10000 := by
    rw [eQs0001]; exact tf_fold Qs0001 [] Ts0001 lQs0001 (fun _ hp => nomatch hp) (by rw [eNs0001]; exact eTs0001)
  refine LawOK.mk' ?_ hq.1 hq.2 eRs0001.1 eRs0001.2 (by decide +kernel)
  intro i hi t ht
  match i, hi, ht with
  | 0, _, ht => exact kQs t (by rw [← eQs]; exact ht)
  | 1, _, ht => exact kQs0 t (by rw [← eQs0]; exact ht)
  | 2, _, ht => exact kQs00 t (by rw [← eQs00]; exact ht)
  | 3, _, ht => exact kQs000 t (by rw [← eQs000]; exact ht)
theorem law0010 : LawOK [0, 0, 1, 0] Ts0010 (W [97,98,98,98,97,98,98]) (W [98,97,98,98]) := by
  have hq : (queueTo [0, 0, 1, 0]).foldl tabStep (some []) = some Ts0010 ∧ ∀ p ∈ Ts0010, okS p.1 = true ∧ p.1.length ≤ 10000 := by
    rw [eQs0010]; exact tf_fold Qs0010 [] Ts0010 lQs0010 (fun _ hp => nomatch hp) (by rw [eNs0010]; exact eTs0010)
  refine LawOK.mk' ?_ hq.1 hq.2 eRs0010.1 eRs0010.2 (by decide +kernel)
  intro i hi t ht
  match i, hi, ht with
  | 0, _, ht => exact kQs t (by rw [← eQs]; exact ht)
  | 1, _, ht => exact kQs0 t (by rw [← eQs0]; exact ht)
  | 2, _, ht => exact kQs00 t (by rw [← eQs00]; exact ht)
  | 3, _, ht => exact kQs001 t (by rw [← eQs001]; exact ht)
theorem law0011 : LawOK [0, 0, 1, 1] Ts0011 (W [97,98,98]) (W [98,97,98,98,97,98,98]) := by
  have hq : (queueTo [0, 0, 1, 1]).foldl tabStep (some []) = some Ts0011 ∧ ∀ p ∈ Ts0011, okS p.1 = true ∧ p.1.length ≤ 10000 := by
    rw [eQs0011]; exact tf_fold Qs0011 [] Ts0011 lQs0011 (fun _ hp => nomatch hp) (by rw [eNs0011]; exact eTs0011)
  refine LawOK.mk' ?_ hq.1 hq.2 eRs0011.1 eRs0011.2 (by decide +kernel)
  intro i hi t ht
  match i, hi, ht with
  | 0, _, ht => exact kQs t (by rw [← eQs]; exact ht)
  | 1, _, ht => exact kQs0 t (by rw [← eQs0]; exact ht)
  | 2, _, ht => exact kQs00 t (by rw [← eQs00]; exact ht)
  | 3, _, ht => exact kQs001 t (by rw [← eQs001]; exact ht)
theorem law0100 : LawOK [0, 1, 0, 0] Ts0100 (W [97,98,98,97,98,98,97,98]) (W [98,97,98]) := by
  have hq : (queueTo [0, 1, 0, 0]).foldl tabStep (some []) = some Ts0100 ∧ ∀ p ∈ Ts0100, okS p.1 = true ∧ p.1.length ≤ 10000 := by
    rw [eQs0100]; exact tf_fold Qs0100 [] Ts0100 lQs0100 (fun _ hp => nomatch hp) (by rw [eNs0100]; exact eTs0100)
  refine LawOK.mk' ?_ hq.1 hq.2 eRs0100.1 eRs0100.2 (by decide +kernel)
  intro i hi t ht
  match i, hi, ht with
  | 0, _, ht => exact kQs t (by rw [← eQs]; exact ht)
  | 1, _, ht => exact kQs0 t (by rw [← eQs0]; exact ht)
  | 2, _, ht => exact kQs01 t (by rw [← eQs01]; exact ht)
  | 3, _, ht => exact kQs010 t (by rw [← eQs010]; exact ht)
theorem law0101 : LawOK [0, 1, 0, 1] Ts0101 (W [97,98,98,97,98]) (W [98,97,98,97,98,98,97,98]) := by
  have hq : (queueTo [0, 1, 0, 1]).foldl tabStep (some []) = some Ts0101 ∧ ∀ p ∈ Ts0101, okS p.1 = true ∧ p.1.length ≤ 10000 := by
    rw [eQs0101]; exact tf_fold Qs0101 [] Ts0101 lQs0101 (fun _ hp => nomatch hp) (by rw [eNs0101]; exact eTs0101)
  refine LawOK.mk' ?_ hq.1 hq.2 eRs0101.1 eRs0101.2 (by decide +kernel)
  intro i hi t ht
  match i, hi, ht with
  | 0, _, ht => exact kQs t (by rw [← eQs]; exact ht)
  | 1, _, ht => exact kQs0 t (by rw [← eQs0]; exact ht)
  | 2, _, ht => exact kQs01 t (by rw [← eQs01]; exact ht)
  | 3, _, ht => exact kQs010 t (by rw [← eQs010]; exact ht)
theorem law0110 : LawOK [0, 1, 1, 0] Ts0110 (W [97,98,98,97,98,97,98]) (W [98,97,98,97,98]) := by
  have hq : (queueTo [0, 1, 1, 0]).foldl tabStep (some []) = some Ts0110 ∧ ∀ p ∈ Ts0110, okS p.1 = true ∧ p.1.length ≤ 10000 := by
    rw [eQs0110]; exact tf_fold Qs0110 [] Ts0110 lQs0110 (fun _ hp => nomatch hp) (by rw [eNs0110]; exact eTs0110)
  refine LawOK.mk' ?_ hq.1 hq.2 eRs0110.1 eRs0110.2 (by decide +kernel)
  intro i hi t ht
  match i, hi, ht with
  | 0, _, ht => exact kQs t (by rw [← eQs]; exact ht)
  | 1, _, ht => exact kQs0 t (by rw [← eQs0]; exact ht)
  | 2, _, ht => exact kQs01 t (by rw [← eQs01]; exact ht)
  | 3, _, ht => exact kQs011 t (by rw [← eQs011]; exact ht)
theorem law0111 : LawOK [0, 1, 1, 1] Ts0111 (W [97,98]) (W [98,97,98,97,98,97,98]) := by
  have hq : (queueTo [0, 1, 1, 1]).foldl tabStep (some []) = some Ts0111 ∧ ∀ p ∈ Ts0111, okS p.1 = true ∧ p.1.length ≤ 10000 := by
    rw [eQs0111]; exact tf_fold Qs0111 [] Ts0111 lQs0111 (fun _ hp => nomatch hp) (by rw [eNs0111]; exact eTs0111)
  refine LawOK.mk' ?_ hq.1 hq.2 eRs0111.1 eRs0111.2 (by decide +kernel)
  intro i hi t ht
  match i, hi, ht with
  | 0, _, ht => exact kQs t (by rw [← eQs]; exact ht)
  | 1, _, ht => exact kQs0 t (by rw [← eQs0]; exact ht)
  | 2, _, ht => exact kQs01 t (by rw [← eQs01]; exact ht)
  | 3, _, ht => exact kQs011 t (by rw [← eQs011]; exact ht)
theorem law1110 : LawOK [1, 1, 1, 0] Ts1110 (W [97,98,97,97,97]) (W [98,97,97,97]) := by
  have hq : (queueTo [1, 1, 1, 0]).foldl tabStep (some []) = some Ts1110 ∧ ∀ p ∈ Ts1110, okS p.1 = true ∧ p.1.length ≤ 10000 := by
    rw [eQs1110]; exact tf_fold Qs1110 [] Ts1110 lQs1110 (fun _ hp => nomatch hp) (by rw [eNs1110]; exact eTs1110)
  refine LawOK.mk' ?_ hq.1 hq.2 eRs1110.1 eRs1110.2 (by decide +kernel)
  intro i hi t ht
  match i, hi, ht with
  | 0, _, ht => exact kQs t (by rw [← eQs]; exact ht)
  | 1, _, ht => exact kQs1 t (by rw [← eQs1]; exact ht)
  | 2, _, ht => exact kQs11 t (by rw [← eQs11]; exact ht)
  | 3, _, ht => exact kQs111 t (by rw [← eQs111]; exact ht)
theorem law1101 : LawOK [1, 1, 0, 1] Ts1101 (W [97,98,97,97]) (W [98,97,97,97,98,97,97]) := by
  have hq : (queueTo [1, 1, 0, 1]).foldl tabStep (some []) = some Ts1101 ∧ ∀ p ∈ Ts1101, okS p.1 = true ∧ p.1.length ≤ 10000 := by
    rw [eQs1101]; exact tf_fold Qs1101 [] Ts1101 lQs1101 (fun _ hp => nomatch hp) (by rw [eNs1101]; exact eTs1101)
  refine LawOK.mk' ?_ hq.1 hq.2 eRs1101.1 eRs1101.2 (by decide +kernel)
  intro i hi t ht
  match i, hi, ht with
  | 0, _, ht => exact kQs t (by rw [← eQs]; exact ht)
  | 1, _, ht => exact kQs1 t (by rw [← eQs1]; exact ht)
  | 2, _, ht => exact kQs11 t (by rw [← eQs11]; exact ht)
  | 3, _, ht => exact kQs110 t (by rw [← eQs110]; exact ht)
theorem law1100 : LawOK [1, 1, 0, 0] Ts1100 (W [97,98,97,97,98,97,97]) (W [98,97,97]) := by
  have hq : (queueTo [1, 1, 0, 0]).foldl tabStep (some []) = some Ts1100 ∧ ∀ p ∈ Ts1100, okS p.1 = true ∧ p.1.length ≤ 10000 := by
    rw [eQs1100]; exact tf_fold Qs1100 [] Ts1100 lQs1100 (fun _ hp => nomatch hp) (by rw [eNs1100]; exact eTs1100)
  refine LawOK.mk' ?_ hq.1 hq.2 eRs1100.1 eRs1100.2 (by decide +kernel)
  intro i hi t ht
  match i, hi, ht with
  | 0, _, ht => exact kQs t (by rw [← eQs]; exact ht)
  | 1, _, ht => exact kQs1 t (by rw [← eQs1]; exact ht)
  | 2, _, ht => exact kQs11 t (by rw [← eQs11]; exact ht)
  | 3, _, ht => exact kQs110 t (by rw [← eQs110]; exact ht)
theorem law1011 : LawOK [1, 0, 1, 1] Ts1011 (W [97,98,97]) (W [98,97,97,98,97,97,98,97]) := by
  have hq : (queueTo [1, 0, 1, 1]).foldl tabStep (some []) = some Ts1011 ∧ ∀ p ∈ Ts1011, okS p.1 = true ∧ p.1.length ≤ 10000 := by
    rw [eQs1011]; exact tf_fold Qs1011 [] Ts1011 lQs1011 (fun _ hp => nomatch hp) (by rw [eNs1011]; exact eTs1011)
  refine LawOK.mk' ?_ hq.1 hq.2 eRs1011.1 eRs1011.2 (by decide +kernel)
  intro i hi t ht
  match i, hi, ht with
  | 0, _, ht => exact kQs t (by rw [← eQs]; exact ht)
  | 1, _, ht => exact kQs1 t (by rw [← eQs1]; exact ht)
  | 2, _, ht => exact kQs10 t (by rw [← eQs10]; exact ht)
  | 3, _, ht => exact kQs101 t (by rw [← eQs101]; exact ht)
theorem law1010 : LawOK [1, 0, 1, 0] Ts1010 (W [97,98,97,98,97,97,98,97]) (W [98,97,97,98,97]) := by
  have hq : (queueTo [1, 0, 1, 0]).foldl tabStep (some []) = some Ts1010 ∧ ∀ p ∈ Ts1010, okS p.1 = true ∧ p.1.length ≤ 10000 := by
    rw [eQs1010]; exact tf_fold Qs1010 [] Ts1010 lQs1010 (fun _ hp => nomatch hp) (by rw [eNs1010]; exact eTs1010)
  refine LawOK.mk' ?_ hq.1 hq.2 eRs1010.1 eRs1010.2 (by decide +kernel)
  intro i hi t ht
  match i, hi, ht with
  | 0, _, ht => exact kQs t (by rw [← eQs]; exact ht)
  | 1, _, ht => exact kQs1 t (by rw [← eQs1]; exact ht)
  | 2, _, ht => exact kQs10 t (by rw [← eQs10]; exact ht)
  | 3, _, ht => exact kQs101 t (by rw [← eQs101]; exact ht)
theorem law1001 : LawOK [1, 0, 0, 1] Ts1001 (W [97,98,97,98,97]) (W [98,97,97,98,97,98,97]) := by
  have hq : (queueTo [1, 0, 0, 1]).foldl tabStep (some []) = some Ts1001 ∧ ∀ p ∈ Ts1001, okS p.1 = true ∧ p.1.length ≤ 10000 := by
    rw [eQs1001]; exact tf_fold Qs1001 [] Ts1001 lQs1001 (fun _ hp => nomatch hp) (by rw [eNs1001]; exact eTs1001)
  refine LawOK.mk' ?_ hq.1 hq.2 eRs1001.1 eRs1001.2 (by decide +kernel)
  intro i hi t ht
  match i, hi, ht with
  | 0, _, ht => exact kQs t (by rw [← eQs]; exact ht)
  | 1, _, ht => exact kQs1 t (by rw [← eQs1]; exact ht)
  | 2, _, ht => exact kQs10 t (by rw [← eQs10]; exact ht)
  | 3, _, ht => exact kQs100 t (by rw [← eQs100]; exact ht)
theorem law1000 : LawOK [1, 0, 0, 0] Ts1000 (W [97,98,97,98,97,98,97]) (W [98,97]) := by
  have hq : (queueTo [1, 0, 0, 0]).foldl tabStep (some []) = some Ts1000 ∧ ∀ p ∈ Ts1000, okS p.1 = true ∧ p.1.length ≤ 10000 := by
    rw [eQs1000]; exact tf_fold Qs1000 [] Ts1000 lQs1000 (fun _ hp => nomatch hp) (by rw [eNs1000]; exact eTs1000)
  refine LawOK.mk' ?_ hq.1 hq.2 eRs1000.1 eRs1000.2 (by decide +kernel)
  intro i hi t ht
  match i, hi, ht with
  | 0, _, ht => exact kQs t (by rw [← eQs]; exact ht)
  | 1, _, ht => exact kQs1 t (by rw [← eQs1]; exact ht)
  | 2, _, ht => exact kQs10 t (by rw [← eQs10]; exact ht)
  | 3, _, ht => exact kQs100 t (by rw [← eQs100]; exact ht)
theorem law010 : LawOK [0, 1, 0] Ts010 (W [97,98,98,97,98]) (W [98,97,98]) := by
  have hq : (queueTo [0, 1, 0]).foldl tabStep (some []) = some Ts010 ∧ ∀ p ∈ Ts010, okS p.1 = true ∧ p.1.length ≤ 10000 := by
    rw [eQs010]; exact tf_fold Qs010 [] Ts010 lQs010 (fun _ hp => nomatch hp) (by rw [eNs010]; exact eTs010)
  refine LawOK.mk' ?_ hq.1 hq.2 eRs010.1 eRs010.2 (by decide +kernel)
  intro i hi t ht
  match i, hi, ht with
  | 0, _, ht => exact kQs t (by rw [← eQs]; exact ht)
  | 1, _, ht => exact kQs0 t (by rw [← eQs0]; exact ht)
  | 2, _, ht => exact kQs01 t (by rw [← eQs01]; exact ht)
theorem law101 : LawOK [1, 0, 1] Ts101 (W [97,98,97]) (W [98,97,97,98,97]) := by
  have hq : (queueTo [1, 0, 1]).foldl tabStep (some []) = some Ts101 ∧ ∀ p ∈ Ts101, okS p.1 = true ∧ p.1.length ≤ 10000 := by
    rw [eQs101]; exact tf_fold Qs101 [] Ts101 lQs101 (fun _ hp => nomatch hp) (by rw [eNs101]; exact eTs101)
  refine LawOK.mk' ?_ hq.1 hq.2 eRs101.1 eRs101.2 (by decide +kernel)
  intro i hi t ht
  match i, hi, ht with
  | 0, _, ht => exact kQs t (by rw [← eQs]; exact ht)
  | 1, _, ht => exact kQs1 t (by rw [← eQs1]; exact ht)
  | 2, _, ht => exact kQs10 t (by rw [← eQs10]; exact ht)
theorem law_ok : ∀ ks ∈ allKs, ∃ tab r0 r1, LawOK ks tab r0 r1 := by
  intro ks h
  simp only [allKs, List.mem_cons, List.not_mem_nil, or_false] at h
  rcases h with rfl | rfl | rfl | rfl | rfl | rfl | rfl | rfl | rfl | rfl | rfl | rfl | rfl | rfl | rfl | rfl
  · exact ⟨_, _, _, law0001⟩
  · exact ⟨_, _, _, law0010⟩
  · exact ⟨_, _, _, law0011⟩
  · exact ⟨_, _, _, law0100⟩
  · exact ⟨_, _, _, law0101⟩
  · exact ⟨_, _, _, law0110⟩
  · exact ⟨_, _, _, law0111⟩
  · exact ⟨_, _, _, law1110⟩
  · exact ⟨_, _, _, law1101⟩
  · exact ⟨_, _, _, law1100⟩
  · exact ⟨_, _, _, law1011⟩
  · exact ⟨_, _, _, law1010⟩
  · exact ⟨_, _, _, law1001⟩
  · exact ⟨_, _, _, law1000⟩
  · exact ⟨_, _, _, law010⟩
  · exact ⟨_, _, _, law101⟩

end Mine

theorem Mine.rs_cmp2 : True ∧ True := by
  w_top off
  try (walk1; fail)
  exact ⟨True.intro, True.intro⟩

namespace Mine
-- needs: pre tok loop
section
open PyProof.Rows.LCg
variable {prog : Program} {w : World} {A : Around} {E : Value → Shared → Prop} {s : Shared} {h₀ : Heap} {L : Addr} {m : Str → Option Value} {env : Env}
noncomputable def TupIn (ax : Addr) (its : Array Value) (news : List (Addr × Obj)) : Prop := ∃ o, (ax, o) ∈ news ∧ o.cls = .type "tuple" ∧ ∃ n, o.data = .seq its n
theorem TupIn.tup {h : Heap} {ax : Addr} {its : Array Value} {news : List (Addr × Obj)} (x : TupIn ax its news) (N : News h₀ L h news) : h.IsTuple ax its := by
  obtain ⟨o, hm, r⟩ := x
  exact ⟨o, (N _ hm).1, r⟩
noncomputable def SrcTu (prog : Program) (w : World) (A : Around) (h₀ : Heap) (L : Addr) (m : Str → Option Value) (env : Env) (elt : Expr) (x : Str) (scope : Scope) (cl : List (Str × Addr)) (Fin : Shared → List Value → List (Addr × Obj) → Prop) (xv : Value) (s₁ : Shared) : Prop :=
  ∃ ax its news, xv = .ref ax ∧ A.handled = none ∧ Fr h₀ L s₁.heap m ∧ News h₀ L s₁.heap news ∧ TupIn ax its news ∧ its.size ≤ sizeLine ∧
    ∀ s₂ : Shared, (∃ h, s₂ = { s₁ with heap := h }) → CompRest prog w A h₀ L m env elt x scope cl s₂ (TupIn ax its) (fun i v => its[i]? = some v) (Fin s₂) its.size 0 [] news
theorem SrcTu.mk {elt : Expr} {x : Str} {scope : Scope} {cl : List (Str × Addr)} {Fin : Shared → List Value → List (Addr × Obj) → Prop} {ax : Addr} {its : Array Value} {k : Nat} {news : List (Addr × Obj)} {s₁ : Shared}
    (hh : A.handled = none) (F : Fr h₀ L s₁.heap m) (N : News h₀ L s₁.heap news) (hm : (ax, ({ cls := .type "tuple", data := .seq its k } : Obj)) ∈ news) (hsz : its.size ≤ sizeLine)
    (h : ∀ g, CompRest prog w A h₀ L m env elt x scope cl { s₁ with heap := g } (TupIn ax its) (fun i v => its[i]? = some v) (Fin { s₁ with heap := g }) its.size 0 [] news) :
    SrcTu prog w A h₀ L m env elt x scope cl Fin (.ref ax) s₁ := ⟨ax, its, news, rfl, hh, F, N, ⟨_, hm, rfl, _, rfl⟩, hsz, fun _ ⟨g, e⟩ => e ▸ h g⟩
theorem tup_st {ax I : Addr} {its : Array Value} : ∀ i (h h' : Heap) (o : Obj) (nw : List (Addr × Obj)), (h.IsTupleIter I ax i ∧ h.IsTuple ax its) → h.get? I = some o → h'.get? I = some o → (∀ b o, h₀.get? b = some o → h'.get? b = some o) → News h₀ L h' nw → TupIn ax its nw → (h'.IsTupleIter I ax i ∧ h'.IsTuple ax its) :=
  fun i h h' o nw st e e' k N S => ⟨by obtain ⟨o', q, r⟩ := st.1; rw [e] at q; cases q; exact ⟨o, e', r⟩, S.tup N⟩
theorem Assign_ListComp_Tu {elt iter : Expr} {x y : Str} {px py : Pos} {scope : Scope} {cl : List (Str × Addr)} {pos spos : Pos} {Q : Flow → Shared → Prop} (_F₀ : Fr h₀ L s.heap m) (hLe : env.locals = L)
    (hsw : swapsWith (.ListComp elt [⟨.Name x px, iter, [], 0⟩] scope pos) (some (.Name y py)) spos.line env = pure true)
    (hclos : closureFor scope env = pure cl) (hcell : ∀ z ∈ scope.names, z.2 ≠ .cell) (hkind : scope.kind = .function)
    (hnames : ∀ z ∈ scope.names, z.2 = .local → scope.names.lookup z.1 = some .local) (hx : scope.names.lookup x = some .local)
    (hy : env.kindOf y = some .local) (hp : (env.scope.kind == .class || (env.scope.kind == .module && env.locals != env.globals)) = false)
    (hs : ∀ x, foldedSetIterable iter env x = pure x)
    (h : wpAny (model prog w) A (eval iter env) (SrcTu prog w A h₀ L m env elt x scope cl (fun s₂ => FinA h₀ L m s₂ y Q)) E s) :
    wpAny (model prog w) A (exec (.Assign [.Name y py] (.ListComp elt [⟨.Name x px, iter, [], 0⟩] scope pos) spos) env) Q E s := by
  subst hLe
  rw [exec_Assign_Name_used _ _ _ _ hsw]
  refine wpAny_bind (wpAny_standAt (wpAny_bind ?_))
  show wpAny _ A (do let _ ← comprehension (.ListComp elt [⟨.Name x px, iter, [], 0⟩] scope pos) scope env _ (newList []) false (eval iter env) (some (assign (.Name y py) env))) _ _ s
  refine wpAny_bind (wpAny_mono (wpAny_comprehension_free (use := some (assign (.Name y py) env)) (Q := fun _ s' => Q .next s') rfl hs hclos hkind hnames
    (wpAny_mono h (fun xv s₁ h₁ => ?_) fun _ _ e => e)) (fun _ s' hq => wpAny_pure (wpAny_pure hq)) fun _ _ e => e)
  obtain ⟨ax, its, news, rfl, hh, F, N, S, hsz, R⟩ := h₁
  have hl := S.tup N
  have hlt : ax < s₁.heap.objs.size := by obtain ⟨_, e, _⟩ := hl; exact Heap.lt_size e
  refine wpAny_pyIter_tuple hl ?_
  have up : ∀ b o, s₁.heap.get? b = some o → (s₁.heap.push { cls := .type "tuple_iterator", data := .fields #[.ref ax, .int 0 0] }).get? b = some o := fun b o e => Heap.get?_push_of_some _ e
  refine block_U (Walks.tuple hh s₁.heap.objs.size ax (Nat.ne_of_lt hlt) its) hsz (fun i h st => by obtain ⟨o, e, _⟩ := st.1; exact ⟨o, e⟩) tup_st hcell hkind hx ⟨⟨_, Heap.get?_push_size _ rfl, rfl, rfl⟩, hl.at fun o e => up _ _ e⟩ (fun b hb => ?_)
    (F.keeps up) (N.grown up) (Nat.ne_of_lt F.ns.lt) (next_is_new F) (fun p hp => Nat.ne_of_lt (Heap.lt_size (N p hp).1)) S (R _ ⟨_, rfl⟩) ?_
  · show b < (s₁.heap.push _).objs.size
    rw [Heap.size_push]
    rcases List.mem_cons.mp hb with rfl | hb
    · exact Nat.lt_succ_self _
    · rw [List.mem_singleton.mp hb]; exact Nat.lt_succ_of_lt hlt
  · intro D C h' tk m' ys news' F' N' o1 hn hC₀ hD₀ hCL hDL hCD offC fin
    show wpAny _ A (assign (.Name y py) env (.ref D)) _ _ _
    refine wpAny_assign_Name (wpAny_storeName_local hy F'.ns (fun h₂ hn₂ hs₂ => ?_) hp)
    have hL₀ : h₀.get? env.locals = none := Heap.get?_none_of_le F'.above
    have F₂ : Fr h₀ env.locals h₂ (fun z => if z = y then some (.ref D) else m z) := ⟨hn₂, fun b o e => hs₂.extBut b o (fun q => by rw [q, hL₀] at e; cases e) (F'.keep b o e), F'.above⟩
    refine ⟨m', hn.sameBut hs₂ hCL, fun h'' hs'' => fin D h'' _ (F₂.change hs'' hCL hC₀) (fun p hp => ?_) o1⟩
    have z : h₂.get? p.1 = some p.2 := hs₂.extBut _ _ (N' p hp).2.1 (N' p hp).1
    refine ⟨hs''.extBut _ _ ?_ z, (N' p hp).2⟩
    rcases List.mem_cons.mp hp with rfl | hp
    · exact Ne.symm hCD
    · exact offC p hp
end

end Mine

theorem Mine.rs_srt : True ∧ True := by
  w_top off
  try (walk1; fail)
  exact ⟨True.intro, True.intro⟩

namespace Mine
-- needs: pre hdr keys tok re loop esc wri tabp pur
theorem le_of_risingS {a b : Str} (h : ltCps b.cps.toList a.cps.toList = false) : a.cps.toList ≤ b.cps.toList := by
  rw [ltCps_eq] at h
  exact of_decide_eq_false h
theorem risingS_le : ∀ (l : List Str) (p : Str), risingS p l = true → (∀ x ∈ l, p.cps.toList ≤ x.cps.toList) ∧ l.Pairwise (fun a b : Str => a.cps.toList ≤ b.cps.toList)
  | [], p, _ => ⟨(fun _ h => nomatch h), .nil⟩
  | x :: r, p, h => by
    unfold risingS at h
    simp only [Bool.and_eq_true, Bool.not_eq_true'] at h
    have h1 := le_of_risingS h.1
    obtain ⟨h2, h3⟩ := risingS_le r x h.2
    refine ⟨fun y hy => ?_, List.pairwise_cons.mpr ⟨h2, h3⟩⟩
    rcases List.mem_cons.mp hy with rfl | hy
    · exact h1
    · exact List.le_trans h1 (h2 y hy)
theorem sortedS_le {l : List Str} (h : sortedS l = true) : l.Pairwise (fun a b : Str => a.cps.toList ≤ b.cps.toList) := by
  cases l with
  | nil => exact .nil
  | cons x r => exact List.pairwise_cons.mpr (risingS_le r x h)
theorem sorted_same {a b : List Str} (ha : sortedS a = true) (hb : sortedS b = true) (h : a.Perm b) : a = b :=
  List.Perm.eq_of_pairwise (le := fun a b : Str => a.cps.toList ≤ b.cps.toList) (fun x y _ _ h1 h2 => by
    have e : x.cps.toList = y.cps.toList := List.le_antisymm h1 h2
    cases x; cases y
    simp only [Str.mk.injEq]
    exact Array.toList_inj.mp e) (sortedS_le ha) (sortedS_le hb) h
theorem keys_strs : ∀ ps : List HP, StrsAre (ps.map hkey) (ps.map fun p => p.k)
  | [] => .nil
  | p :: ps => .cons _ _ (keys_strs ps)
/-- As kn_post, for a law that leaves generators that are bare. -/
noncomputable def GoodB (c : ClaimW) (cl : Str → Option Addr) (mean : ExcName → Option Value) (args : List WData) (s₁ : Shared) (res : Result) (s' : Shared) : Prop :=
  GoodW c cl mean args s₁ res { s' with gens := #[] } ∧ AllBare s'.gens
theorem kn_postB {M : Model} {A : Around} {cd : Code} {s s₁ : Shared} {cw : ClaimW} {cl : Str → Option Addr} {mean : ExcName → Option Value} {args : List WData} {tabs : List (Addr × Addr)} (hT : TabsAt tabs s₁.heap) (hr : ∀ a x, cw.raises a x = false)
    (h : codeAny M A cd (fun r s' => GoodB cw cl mean args { s₁ with heap := ghostOf s₁.heap tabs } r s' ∧ GrownAll tabs s'.heap) s) : codeAny M A cd (GoodWG cw cl mean args s₁) s :=
  codeAny_mono h fun r s' ⟨⟨⟨hc, hk, hos, _⟩, hg⟩, hgr⟩ => by
    have keep : ∀ b o, b ∉ tabs.map (·.2) → s₁.heap.get? b = some o → s'.heap.get? b = some o := fun b o hb e => hk b o (ghost_ne e hb)
    have grown : ∀ b o, b ∈ tabs.map (·.2) → s₁.heap.get? b = some o → isCodeTable s₁.heap b ∧ o = tabObj #[] ∧ ∃ ps, s'.heap.get? b = some (tabObj ps) := fun b o hb e => by
      obtain ⟨q, hq, rfl⟩ := List.mem_map.mp hb
      have e2 := (hT q hq).2
      rw [e] at e2
      exact ⟨((hT q hq).1.tab (hT q hq).2).isCodeTable, Option.some.inj e2, hgr.get q hq⟩
    refine ⟨?_, ⟨fun b o e => ?_, fun b o e => ?_⟩, hos, hg⟩
    · rcases hc with ⟨v, d, as, r1, r2, r3, r4, r5⟩ | ⟨e, ob, x, _, _, _, r4, _⟩
      · refine .inl ⟨v, d, as, r1, r2, r3, r4, fun q => ⟨(r5 q).1, fun a ha => ?_⟩⟩
        cases q1 : s₁.heap.get? a with
        | none => rfl
        | some o =>
          by_cases hb : a ∈ tabs.map (·.2)
          · obtain ⟨_, _, ps, hP⟩ := grown a o hb q1
            exact absurd ha (readsW_apart hP rfl r3)
          · have e3 := (r5 q).2 a ha
            rw [show (ghostOf s₁.heap tabs).get? a = some o from ghost_ne q1 hb] at e3
            cases e3
      · rw [hr] at r4; cases r4
    · by_cases hb : b ∈ tabs.map (·.2)
      · obtain ⟨ht, rfl, ps, hP⟩ := grown b o hb e
        exact .inr (.inl ⟨ht, rfl, #[], ps, rfl, by rw [Array.empty_append]; exact hP⟩)
      · exact .inl (keep b o hb e)
    · by_cases hb : b ∈ tabs.map (·.2)
      · obtain ⟨_, _, ps, hP⟩ := grown b o hb e
        exact ⟨_, hP⟩
      · exact ⟨o, keep b o hb e⟩
theorem strOk_of {x : Str} (h : okS x = true) : PyData.strOk x = true := by
  unfold PyData.strOk
  rw [← Array.all_toList]
  refine List.all_eq_true.mpr fun c hc => ?_
  have := List.all_eq_true.mp h c hc
  rcases okC_cases this with rfl | rfl | rfl | rfl | rfl | rfl <;> rfl
theorem canLay_strs : ∀ ss : List Str, (∀ x ∈ ss, okS x = true) → PyData.canLayAll0 (ss.map PyData.str) = true
  | [], _ => rfl
  | x :: r, h => by simp [PyData.canLayAll0, PyData.canLay0, strOk_of (h x (.head _)), canLay_strs r fun y hy => h y (.tail _ hy)]
theorem depth_strs : ∀ ss : List Str, PyData.depthAll (ss.map PyData.str) = 0
  | [] => rfl
  | _ :: r => by simp [PyData.depthAll, PyData.depth, depth_strs r]
theorem canLay_strsL {ss : List Str} (h : ∀ x ∈ ss, okS x = true) : PyData.canLay0 (.list (ss.map PyData.str)) = true := by
  simp [PyData.canLay0, canLay_strs ss h]
theorem shaped_strs {ss : List Str} (h : ∀ x ∈ ss, okS x = true) : SeqAt.shaped (.list (ss.map PyData.str)) = true := by
  simp [SeqAt.shaped, PyData.canLay0, PyData.depth, canLay_strs ss h, depth_strs]
theorem eqv_strs {ss : List Str} (h : ∀ x ∈ ss, okS x = true) : PyData.eqv (.list (ss.map PyData.str)) (.list (ss.map PyData.str)) = true := SeqAt.eqv_refl _ (canLay_strsL h)

end Mine

theorem Mine.rs_law : True ∧ True := by
  w_top off
  try (walk1; fail)
  exact ⟨True.intro, True.intro⟩

namespace Mine
-- needs: pre tok re loop hdr esc wri loc gro new ext lex rd ci gr rawt enu seg iadd due gen gen2 grp stl stp cmp cmp2 rng tabp tabb tabo tab hnew gr3 grr keys pur pur2 pur3 srt
local macro_rules | `(tactic| walk_at "exec For Name Call cons nil") => `(tactic| (k_here; k_dflt (refine' Mine.For_rawT ?F ?_ ?hs; (case F => k_asm)); (case hs => (intro _; with_unfolding_all rfl))))
theorem four_of {ys : List Value} {ns : List Int} (h : ys.length = 4) (hi : IntsAre ys ns) : ∃ a ta b tb c tc d td, ys = [.int a ta, .int b tb, .int c tc, .int d td] ∧ ns = [a, b, c, d] := by
  cases hi with
  | nil => cases h
  | cons a ta h1 => cases h1 with
    | nil => cases h
    | cons b tb h2 => cases h2 with
      | nil => cases h
      | cons c tc h3 => cases h3 with
        | nil => cases h
        | cons d td h4 => cases h4 with
          | nil => exact ⟨a, ta, b, tb, c, tc, d, td, rfl, rfl⟩
          | cons e te h5 => simp at h
theorem four_keep {a b c d : Addr × Obj} {r : List (Addr × Obj)} {p : Addr × Obj} (h : p ∈ a :: r) : p ∈ a :: b :: c :: d :: r := by
  rcases List.mem_cons.mp h with rfl | h
  · exact .head _
  · exact .tail _ (.tail _ (.tail _ (.tail _ h)))
theorem mod3 (k : Int) : 1 ≤ 1 + k.fmod 3 ∧ 1 + k.fmod 3 ≤ 3 := by
  rw [Int.fmod_eq_emod_of_nonneg _ (by decide)]; omega
theorem three_of {ys : List Value} {a b c : Int} (hi : IntsAre ys (List.map (fun k => 1 + k.fmod 3) [a, b, c])) : ∃ x tx y ty z tz, ys = [.int x tx, .int y ty, .int z tz] ∧ (1 ≤ x ∧ x ≤ 3) ∧ (1 ≤ y ∧ y ≤ 3) ∧ (1 ≤ z ∧ z ≤ 3) := by
  cases hi with
  | cons x tx h1 => cases h1 with
    | cons y ty h2 => cases h2 with
      | cons z tz h3 => cases h3; exact ⟨_, tx, _, ty, _, tz, rfl, mod3 _, mod3 _, mod3 _⟩
theorem mod2 (k : Int) : 0 ≤ k.fmod 2 ∧ k.fmod 2 ≤ 1 := by
  rw [Int.fmod_eq_emod_of_nonneg _ (by decide)]; omega
theorem mod3' (k : Int) : 0 ≤ k.fmod 3 ∧ k.fmod 3 ≤ 2 := by
  rw [Int.fmod_eq_emod_of_nonneg _ (by decide)]; omega
theorem keep_2 {a b c d : Addr × Obj} {r : List (Addr × Obj)} {p : Addr × Obj} (h : p ∈ b :: r) : p ∈ a :: b :: c :: d :: r := by
  rcases List.mem_cons.mp h with rfl | h
  · exact .tail _ (.head _)
  · exact .tail _ (.tail _ (.tail _ (.tail _ h)))
noncomputable def ExtIs (en : Int) (ext : List Value) : Prop := (en = 0 ∧ ∃ t, ext = [.int 0 t]) ∨ (en = 1 ∧ ∃ t u, ext = [.int 127 t, .int 1 u]) ∨ (en = 2 ∧ ext = [])
theorem ExtIs.len {en : Int} {ext : List Value} (h : ExtIs en ext) : ext.length ≤ 2 := by
  rcases h with ⟨_, _, rfl⟩ | ⟨_, _, _, rfl⟩ | ⟨_, rfl⟩ <;> simp
theorem keep_1 {a b : Addr × Obj} {r : List (Addr × Obj)} {p : Addr × Obj} (h : p ∈ a :: r) : p ∈ a :: b :: r := by
  rcases List.mem_cons.mp h with rfl | h
  · exact .head _
  · exact .tail _ (.tail _ h)
noncomputable def ExPost (h₀ : Heap) (L : Addr) (m : Str → Option Value) (news : List (Addr × Obj)) (s : Shared) (en : Int) (v : Value) (s' : Shared) : Prop :=
  ∃ h' tk D ext n, v = .ref D ∧ s' = { s with heap := h', toks := tk } ∧ Fr h₀ L h' m ∧ News h₀ L h' ((D, listOf ext.toArray n) :: news) ∧ ExtIs en ext
theorem ExPost.mk {h₀ : Heap} {L : Addr} {m : Str → Option Value} {news all : List (Addr × Obj)} {s : Shared} {en : Int} {h' : Heap} {tk : Nat} {D : Addr} {ext : List Value} {n : Nat} (F : Fr h₀ L h' m) (N : News h₀ L h' all) (hs : ∀ p ∈ (D, listOf ext.toArray n) :: news, p ∈ all) (he : ExtIs en ext) : ExPost h₀ L m news s en (.ref D) { s with heap := h', toks := tk } :=
  ⟨h', tk, D, ext, n, rfl, rfl, F, fun p hp => N p (hs p hp), he⟩
theorem cut_ext {prog : Program} {w : World} {A : Around} {E : Value → Shared → Prop} {h₀ : Heap} {L : Addr} {m : Str → Option Value} {news : List (Addr × Obj)} {s : Shared} {en : Int} {t : Sem Value} {Q : Value → Shared → Prop} (F : Fr h₀ L s.heap m) (N : News h₀ L s.heap news) (hen : 0 ≤ en ∧ en ≤ 2)
    (k0 : en = 0 → wpAny (model prog w) A t (ExPost h₀ L m news s en) E s) (k1 : en = 1 → wpAny (model prog w) A t (ExPost h₀ L m news s en) E s) (k2 : en = 2 → wpAny (model prog w) A t (ExPost h₀ L m news s en) E s)
    (go : ∀ h' tk D ext n, Fr h₀ L h' m → News h₀ L h' ((D, listOf ext.toArray n) :: news) → ExtIs en ext → Q (.ref D) { s with heap := h', toks := tk }) : wpAny (model prog w) A t Q E s := by
  have k : wpAny (model prog w) A t (ExPost h₀ L m news s en) E s := by
    by_cases e0 : en = 0
    · exact k0 e0
    by_cases e1 : en = 1
    · exact k1 e1
    exact k2 (by omega)
  refine wpAny_mono k (fun v s' hv => ?_) (fun _ _ e => e)
  obtain ⟨h', tk, D, ext, n, rfl, rfl, F', N', he⟩ := hv
  exact go h' tk D ext n F' N' he
theorem ext_view {x y z : Int} {tx ty tz : Tok} {en : Int} {ext : List Value} (hx : 1 ≤ x ∧ x ≤ 3) (hy : 1 ≤ y ∧ y ≤ 3) (hz : 1 ≤ z ∧ z ≤ 3) (h : ExtIs en ext) :
    ∃ ys xs, ((([.int x tx, .int y ty, .int z tz] ++ ext : List Value)[3]? = none ∧ ys[3]? = none) ∨ (∃ t, ([.int x tx, .int y ty, .int z tz] ++ ext : List Value)[3]? = some (.int 127 t) ∧ ys[3]? = none) ∨ (∃ t, ([.int x tx, .int y ty, .int z tz] ++ ext : List Value)[3]? = some (.int 0 t) ∧ ys[3]? = ([.int x tx, .int y ty, .int z tz] ++ ext : List Value)[2]?)) ∧
      IntsAre ys xs ∧ (∀ x ∈ xs, 1 ≤ x ∧ x ≤ 3) ∧ (ys.length = 3 ∨ ys.length = 4) ∧ (∀ i v, i < 3 → ([.int x tx, .int y ty, .int z tz] ++ ext : List Value)[i]? = some v → ys[i]? = some v ∧ ∃ x t, v = .int x t ∧ 1 ≤ x ∧ x ≤ 3) ∧
      ((en = 0 ∧ xs = [x, y, z, z]) ∨ (en ≠ 0 ∧ xs = [x, y, z])) := by
  have b3 : ∀ w ∈ [x, y, z], 1 ≤ w ∧ w ≤ 3 := fun w hw => by
    simp only [List.mem_cons, List.not_mem_nil, or_false] at hw
    rcases hw with rfl | rfl | rfl <;> assumption
  have b4 : ∀ w ∈ [x, y, z, z], 1 ≤ w ∧ w ≤ 3 := fun w hw => by
    simp only [List.mem_cons, List.not_mem_nil, or_false] at hw
    rcases hw with rfl | rfl | rfl | rfl <;> assumption
  have at3 : ∀ (r r' : List Value) i v, i < 3 → ([.int x tx, .int y ty, .int z tz] ++ r : List Value)[i]? = some v → ([.int x tx, .int y ty, .int z tz] ++ r' : List Value)[i]? = some v ∧ ∃ x t, v = .int x t ∧ 1 ≤ x ∧ x ≤ 3 := fun r r' i v hi hv => by
    match i, hi, hv with
    | 0, _, hv => cases hv; exact ⟨rfl, _, _, rfl, hx⟩
    | 1, _, hv => cases hv; exact ⟨rfl, _, _, rfl, hy⟩
    | 2, _, hv => cases hv; exact ⟨rfl, _, _, rfl, hz⟩
  rcases h with ⟨rfl, t, rfl⟩ | ⟨rfl, t, u, rfl⟩ | ⟨rfl, rfl⟩
  · exact ⟨[.int x tx, .int y ty, .int z tz, .int z tz], [x, y, z, z], .inr (.inr ⟨t, rfl, rfl⟩), .cons _ _ (.cons _ _ (.cons _ _ (.cons _ _ .nil))), b4, .inr rfl, at3 _ [.int z tz], .inl ⟨rfl, rfl⟩⟩
  · exact ⟨[.int x tx, .int y ty, .int z tz], [x, y, z], .inr (.inl ⟨t, rfl, rfl⟩), .cons _ _ (.cons _ _ (.cons _ _ .nil)), b3, .inl rfl, at3 _ [], .inr ⟨by decide, rfl⟩⟩
  · exact ⟨[.int x tx, .int y ty, .int z tz], [x, y, z], .inl ⟨rfl, rfl⟩, .cons _ _ (.cons _ _ (.cons _ _ .nil)), b3, .inl rfl, at3 _ [], .inr ⟨by decide, rfl⟩⟩
theorem ks_of {x y z kd en : Int} {xs : List Int} {j : Nat} (hx : 1 ≤ x ∧ x ≤ 3) (hy : 1 ≤ y ∧ y ≤ 3) (hz : 1 ≤ z ∧ z ≤ 3) (hk : 0 ≤ kd ∧ kd ≤ 1) (h : (en = 0 ∧ xs = [x, y, z, z]) ∨ (en ≠ 0 ∧ xs = [x, y, z])) (hj : j ≤ xs.length) (hj4 : 4 ≤ (dueTo kd xs j).length ∨ j = xs.length) :
    (dueTo kd xs j).take 4 ∈ allKs ∧ ((en = 0 ∧ (dueTo kd xs j).take 4 = (dueTo kd [x, y, z, z, z, z, z] 7).take 4) ∨ (en ≠ 0 ∧ (dueTo kd xs j).take 4 = (dueTo kd [x, y, z] 3).take 4)) := by
  have hm := abc_mem hx hy hz
  have hkm : kd ∈ [(0 : Int), 1] := by simp only [List.mem_cons, List.not_mem_nil, or_false]; omega
  rcases h with ⟨he, rfl⟩ | ⟨he, rfl⟩
  · have q := steps_same4 _ hm kd hkm j (by simp only [List.length_cons, List.length_nil] at hj; simp only [List.mem_cons, List.not_mem_nil, or_false]; omega) hj4
    exact ⟨q.2, .inl ⟨he, q.1⟩⟩
  · have q := steps_same3 _ hm kd hkm j (by simp only [List.length_cons, List.length_nil] at hj; simp only [List.mem_cons, List.not_mem_nil, or_false]; omega) hj4
    exact ⟨q.2, .inr ⟨he, q.1⟩⟩
theorem ne_cell {h₀ h : Heap} {L : Addr} {news : List (Addr × Obj)} {a c : Addr} {its : Array Value} {n : Nat} {o : Obj} {v : Option Value} (N : News h₀ L h news) (ha : (a, listOf its n) ∈ news) (hc : (c, o) ∈ news) (hd : o.data = .cell v) : @Ne Nat a c := by
  intro e
  have e' : a = c := e
  have h1 := (N _ ha).1
  have h2 := (N _ hc).1
  rw [e'] at h1
  have h3 : listOf its n = o := Option.some.inj (h1.symm.trans h2)
  rw [← h3] at hd
  cases hd
theorem ne_tab {h₀ h : Heap} {L : Addr} {news : List (Addr × Obj)} {a c : Addr} {its : Array Value} {n : Nat} {es : Array Value} (N : News h₀ L h news) (ha : (a, listOf its n) ∈ news) (hc : (c, tabObj es) ∈ news) : @Ne Nat a c := by
  intro e
  have e' : a = c := e
  have h1 := (N _ ha).1
  have h2 := (N _ hc).1
  rw [e'] at h1
  have h3 : listOf its n = tabObj es := Option.some.inj (h1.symm.trans h2)
  unfold tabObj at h3
  cases h3
theorem keep_3 {a b c : Addr × Obj} {r : List (Addr × Obj)} {p : Addr × Obj} (h : p ∈ a :: r) : p ∈ a :: b :: c :: r := by
  rcases List.mem_cons.mp h with rfl | h
  · exact .head _
  · exact .tail _ (.tail _ (.tail _ h))
theorem due_dec {en : Int} {ks p q : List Int} (h : (en = 0 ∧ ks = p) ∨ (en ≠ 0 ∧ ks = q)) : (((en == 0) = true ∧ ks = p) ∨ ((en == 0) = false ∧ ks = q)) ∧ ((decide (en = 0) = true ∧ ks = p) ∨ (decide (en = 0) = false ∧ ks = q)) := by
  rcases h with ⟨h1, h2⟩ | ⟨h1, h2⟩
  · exact ⟨.inl ⟨by simp [h1], h2⟩, .inl ⟨by simp [h1], h2⟩⟩
  · exact ⟨.inr ⟨by simp [h1], h2⟩, .inr ⟨by simp [h1], h2⟩⟩
section
variable {w : World} {A A₀ : Around} {s : Shared} {base h₀ : Heap} {env : Env} {outer : List Env} {L : Addr} {m mg mb : Str → Option Value} {news news' : List (Addr × Obj)} {loose : List Str} {mean : ExcName → Option Value} {R : Result → Shared → Prop}
theorem due_any {sl : Addr} {a b c kind : Int} {ta tb tc tk0 : Tok} {n : Nat} {bl : Bool} {ks : List Int} {wd : World} (w : (bl = true ∧ ks = (dueTo kind [a, b, c, c, c, c, c] 7).take 4) ∨ (bl = false ∧ ks = (dueTo kind [a, b, c] 3).take 4)) (hm : (sl, listOf [Value.int a ta, Value.int b tb, Value.int c tc].toArray n) ∈ news) (ha : 1 ≤ a ∧ a ≤ 3) (hb : 1 ≤ b ∧ b ≤ 3) (hc : 1 ≤ c ∧ c ≤ 3) (hk : 0 ≤ kind ∧ kind ≤ 1)
    {kk : Nat} (hkk : 12 ≤ kk) (C : Cx kk wd A A₀ base h₀ env outer L mg mb loose mean) (F : Fr h₀ L s.heap m) (N : News h₀ L s.heap news)
    (h : ∀ h' tk D vs k', Fr h₀ L h' m → IntsAre vs ks → News h₀ L h' ((D, listOf vs.toArray k') :: news) → R (.ok (.ret (.ref D))) { s with heap := h', toks := tk }) :
    codeAny (model PR wd) A (.call (.ref 273) ⟨[.ref sl, .int kind tk0, .bool bl], []⟩) R s := by
  rcases w with ⟨rfl, rfl⟩ | ⟨rfl, rfl⟩
  · exact due1_spec hm ha hb hc hk hkk C F N h
  · exact due0_spec hm ha hb hc hk hkk C F N h
end
theorem keep_d {a b c d e f g z : Addr × Obj} {p : Addr × Obj} (h : p ∈ [z, b, d, e, f, g]) : p ∈ [a, b, c, d, e, f, g, z] := by
  simp only [List.mem_cons, List.not_mem_nil, or_false] at h ⊢
  rcases h with h | h | h | h | h | h <;> simp [h]
theorem off1_mem {D : Addr} : ∀ {l : List (Addr × Obj)}, LCg.Off1 D l → ∀ p ∈ l, p.1 ≠ D
  | [], _, _, h => nomatch h
  | q :: l, ⟨h1, h2⟩, p, h => by
    rcases List.mem_cons.mp h with rfl | h
    · exact h1
    · exact off1_mem h2 p h
theorem law_base {h₀ h : Heap} {L nl D20 D10 c4 c3 c2 c1 hd d hl : Addr} {x1 x2 x3 o4 o3 o2 o1 : Obj} {extra : List (Addr × Obj)} {ps : List HP} {n : Nat} {es : List DictEntry} {ne : Nat} (N : News h₀ L h ((nl, x1) :: (D20, x2) :: (D10, x3) :: (c4, o4) :: (c3, o3) :: (c2, o2) :: (c1, o1) :: extra))
    (l : (@LT.lt Nat _ D20 nl) ∧ (@LT.lt Nat _ D10 nl) ∧ (@LT.lt Nat _ c4 nl) ∧ (@LT.lt Nat _ c3 nl) ∧ (@LT.lt Nat _ c2 nl) ∧ (@LT.lt Nat _ c1 nl) ∧ AllLt nl extra) (hcs : (@Ne Nat c3 c4) ∧ (@Ne Nat c2 c4) ∧ (@Ne Nat c1 c4)) (n4 : @Ne Nat D10 c4) (f4 : @Ne Nat c4 D20) (e4 : ∀ p ∈ extra, p.1 ≠ c4)
    (H : HdrAt extra hd d hl ps n es ne) (m254 : ∃ q, (254, tabObj q) ∈ extra) :
    ∃ bs, (∀ p ∈ bs, p.1 ≠ nl ∧ p.1 ≠ c4) ∧ (D20, x2) ∈ bs ∧ (c3, o3) ∈ bs ∧ HdrAt bs hd d hl ps n es ne ∧ (∃ q, (254, tabObj q) ∈ bs) ∧ (@LT.lt Nat _ c4 nl) ∧ (∀ p ∈ bs, @LT.lt Nat _ p.1 nl) ∧ News h₀ L h ((nl, x1) :: (c4, o4) :: bs) := by
  obtain ⟨q1, q2, q3, q4, q5, q6, q7⟩ := l
  have q8 := allLt_mem q7
  have all : ∀ p ∈ (D20, x2) :: (D10, x3) :: (c3, o3) :: (c2, o2) :: (c1, o1) :: extra, (@LT.lt Nat _ p.1 nl) ∧ @Ne Nat p.1 c4 := fun p hp => by
    simp only [List.mem_cons] at hp
    rcases hp with rfl | rfl | rfl | rfl | rfl | hp
    · exact ⟨q1, Ne.symm f4⟩
    · exact ⟨q2, n4⟩
    · exact ⟨q4, hcs.1⟩
    · exact ⟨q5, hcs.2.1⟩
    · exact ⟨q6, hcs.2.2⟩
    · exact ⟨q8 p hp, e4 p hp⟩
  obtain ⟨q, hq⟩ := m254
  refine ⟨_, fun p hp => ⟨Nat.ne_of_lt (all p hp).1, (all p hp).2⟩, .head _, .tail _ (.tail _ (.head _)), H.mono fun p hp => .tail _ (.tail _ (.tail _ (.tail _ (.tail _ hp)))), ⟨q, .tail _ (.tail _ (.tail _ (.tail _ (.tail _ hq))))⟩, q3, fun p hp => (all p hp).1, fun p hp => N p ?_⟩
  simp only [List.mem_cons] at hp ⊢
  rcases hp with h | h | h | h | h | h | h | h <;> simp [h]
noncomputable def NJ (nl D20 hd c4 : Addr) (r0 r1 : Str) (bs : List (Addr × Obj)) (i : Nat) (m : Str → Option Value) (news : List (Addr × Obj)) : Prop :=
  m "names" = some (.ref nl) ∧ m "rows" = some (.ref D20) ∧ m "table" = some (.ref hd) ∧ ∃ vs k o v, news = (nl, listOf vs.toArray k) :: (c4, o) :: bs ∧ StrsAre vs ((List.range i).map (lnm r0 r1)) ∧ o.data = .cell v
theorem turn_base {h₀ h : Heap} {L nl D20 c4 c3 hd d hl I : Addr} {x1 x2 o4 o3 oI : Obj} {bs : List (Addr × Obj)} {ps : List HP} {n : Nat} {es : List DictEntry} {ne : Nat} (N : News h₀ L h ((I, oI) :: (nl, x1) :: (c4, o4) :: bs))
    (b1 : ∀ p ∈ bs, p.1 ≠ nl ∧ p.1 ≠ c4) (b2 : (D20, x2) ∈ bs) (b3 : (c3, o3) ∈ bs) (b4 : HdrAt bs hd d hl ps n es ne) (hI : ∀ p ∈ (nl, x1) :: (c4, o4) :: bs, p.1 ≠ I) :
    ∃ RR, (∀ p ∈ RR, p.1 ≠ nl) ∧ (∀ p ∈ RR, p.1 ≠ c4) ∧ RR = (I, oI) :: bs ∧ (D20, x2) ∈ RR ∧ (c3, o3) ∈ RR ∧ HdrAt RR hd d hl ps n es ne ∧ News h₀ L h ((nl, x1) :: (c4, o4) :: RR) := by
  refine ⟨_, fun p hp => ?_, fun p hp => ?_, rfl, .tail _ b2, .tail _ b3, b4.mono fun p hp => .tail _ hp, perm3 N⟩
  · rcases List.mem_cons.mp hp with rfl | hp
    · exact Ne.symm (hI _ (.head _))
    · exact (b1 p hp).1
  · rcases List.mem_cons.mp hp with rfl | hp
    · exact Ne.symm (hI _ (.tail _ (.head _)))
    · exact (b1 p hp).2
noncomputable abbrev stOf {s : Shared} (_ : s.gens = #[]) : Shared := s
noncomputable abbrev adr1 {h₀ h : Heap} {L a : Addr} {o : Obj} {l : List (Addr × Obj)} (_ : News h₀ L h ((a, o) :: l)) : Addr := a
local macro_rules | `(tactic| kn_posts) => `(tactic| refine Mine.kn_postB (by with_reducible assumption) (fun _ _ => rfl) ?_)
theorem law_holds : PySem.Challenge.rw_to0068_01.Holds := hd (by
  k_go0
  all_goals try k_fold
  all_goals dsimp only at *
  try ((with_reducible rename Ground _ _ _ _ _ _ _ _ _ => q1); clear q1)
  try ((with_reducible rename Flt.MathXP _ _ _ => q2); clear q2)
  try ((with_reducible rename LooseAre _ _ _ => q3); clear q3)
  try ((with_reducible rename TopE _ _ _ _ => q4); clear q4)
  try ((with_reducible rename TopW _ _ _ => q5); clear q5)
  try ((with_reducible rename Tables _ _ _ _ => q6); clear q6)
  try ((with_reducible rename ReadsAllW _ _ _ _ _ _ => q8); clear q8)
  try ((with_reducible rename Well _ _ _ _ => q9); clear q9)
  try ((with_reducible rename Reads _ _ _ _ => q10); clear q10)
  try ((with_reducible rename ReadsAll _ _ _ _ => q11); clear q11)
  try ((with_reducible rename Hook.says _ _ _ => q12); clear q12)
  try ((with_reducible rename Top view _ _ _ _ _ => q13); clear q13)
  try ((with_reducible rename Heap.CodeRec _ _ _ => q14); clear q14)
  try ((with_reducible rename WShape.hasAll _ _ _ = true => q15); clear q15)
  try ((with_reducible rename WData.layableAll _ = true => q16); clear q16)
  try ((with_reducible rename Shape.has _ _ = true => q17); clear q17)
  generalize bindC _ _ = bc at *
  (with_reducible rename _ = #[] => hgens)
  obtain ⟨S, hS⟩ : ∃ S, S = stOf hgens := ⟨_, rfl⟩
  dsimp only [stOf] at hS
  subst hS
  iterate 23 walk1
  (with_reducible rename Fr _ _ _ _ => F1); (with_reducible rename News _ _ _ _ => N1)
  revert F1
  generalize bindL _ _ _ = m0
  intro F1
  refine Assign_ListComp_E (by with_unfolding_all rfl) (by with_unfolding_all rfl) (by rfl) (by decide) (fun _ => rfl) ?_
  iterate 16 walk1
  (with_reducible rename Fr _ _ _ _ => F2); (with_reducible rename News _ _ _ _ => N2)
  refine' SrcE.enum (J := fun i ys => ys.length = i ∧ ∃ ns, IntsAre ys ns) ?zh ?zc ?zk ?zx ?zx2 ?zxx ?zsz ?zy ?zp ?zF ?zN ?zm ?z0 ?zstep ?zdone
  case zF => exact F2
  case zN => exact N2
  case zm => exact .head _
  case zh => exact rfl
  case zc => decide
  case zk => exact rfl
  case zx => decide
  case zx2 => decide
  case zxx => decide
  case zsz => exact Nat.le_of_ble_eq_true rfl
  case zy => exact rfl
  case zp => exact rfl
  case z0 => exact ⟨rfl, [], .nil⟩
  case zstep =>
    rintro i v t ys e oe it oit C oC D m₂ h tk E' hv ⟨hys, ns, hns⟩ hC hx1 hx2 F3 N3
    clear F2 N2
    obtain ⟨st, tst, rfl⟩ : ∃ st tst, v = .int st tst := by
      match i, hv with
      | 0, hv => exact ⟨_, _, (Option.some.inj hv).symm⟩
      | 1, hv => exact ⟨_, _, (Option.some.inj hv).symm⟩
      | 2, hv => exact ⟨_, _, (Option.some.inj hv).symm⟩
      | 3, hv => exact ⟨_, _, (Option.some.inj hv).symm⟩
      | n + 4, hv => cases hv
    dsimp only [envOfC] at F3 N3
    iterate 14 walk1
    dsimp only
    (with_reducible rename IntsAre _ (List.map _ _) => hI8)
    refine' kmk_slice3_lit (s := ⟨_, _, _, _, _⟩) (zs := (slicePick _ (some (i : Int)) none (some 4)).toList) ?zF ?zN ?zl ?zp ?zq ?zk ?zo ?ze ?_ ?zs ?zt ?zz
    case zF => exact F3
    case zN => exact N3
    case zl => exact News.isList N3 (.tail _ (.tail _ (.tail _ (.tail _ (.tail _ (.head _))))))
    case zp => exact IsPart.int _ _
    case zq => exact IsPart.none
    case zk => exact IsPart.int _ _
    case zo => decide
    case ze => rfl
    case zs => with_unfolding_all rfl
    case zt => intro _; with_unfolding_all rfl
    case zz => rw [List.size_toArray, hI8.length, sizeLine_eq, List.length_map, List.length_take]; omega
    intro D4 h4 F4 N4 l4
    clear F3 N3
    have hI9 := hI8.pick (some (i : Int)) none (some 4)
    generalize (slicePick _ (some (i : Int)) none (some 4)).toList = zs at *
    generalize pickNums _ (some (i : Int)) none (some 4) = pn at *
    iterate 1 walk1
    refine' sumK ?z0 ?z1 ?z2 ?z3 ?z4 ?_
    case z0 => exact rfl
    case z1 => exact F4
    case z2 => exact N4
    case z3 => exact News.isList N4 (.head _)
    case z4 => exact hI9
    intro h5 tk5 t5 F5 N5
    clear F4 N4
    iterate 1 walk1
    (with_reducible rename Fr _ _ _ _ => F6); (with_reducible rename News _ _ _ _ => N6)
    refine EEnd.intro F6 N6 (fun p hp => .tail _ hp) ⟨by simp [hys], _, hns.append (.cons _ _ .nil)⟩
  case zdone =>
    rintro D h tk ys F3 N3 ap ⟨hlen, ns, hns⟩
    dsimp only [envOfC] at F3 N3
    clear F2 N2
    obtain ⟨a, ta, b, tb, c, tc, d, td, rfl, rfl⟩ := four_of hlen hns
    have N4 : News _ _ _ _ := fun p hp => N3 p (four_keep hp)
    clear N3
    iterate 14 walk1
    clear ap hlen hns
    (with_reducible rename IntsAre _ (List.map _ [a, b, c]) => hz)
    obtain ⟨x, tx, y, ty, z, tz, rfl, hx, hy, hz3⟩ := three_of hz
    clear hz
    iterate 33 walk1
    (with_reducible rename Fr _ _ _ _ => F6); (with_reducible rename News _ _ _ _ => N6)
    have N7 : News _ _ _ _ := fun p hp => N6 p (keep_2 hp)
    clear N6
    obtain ⟨kd, hkd, hkd1⟩ : ∃ kd, kd = ([a, b, c, d].getD (Int.toNat 3) 0).fmod 2 ∧ 0 ≤ kd ∧ kd ≤ 1 := ⟨_, rfl, mod2 _⟩
    obtain ⟨en, hen, hen1⟩ : ∃ en, en = (([a, b, c, d].getD (Int.toNat 3) 0).fdiv 2).fmod 3 ∧ 0 ≤ en ∧ en ≤ 2 := ⟨_, rfl, mod3' _⟩
    rw [← hkd, ← hen] at F6
    clear hkd hen
    iterate 7 walk1
    refine cut_ext F6 N7 hen1 ?_ ?_ ?_ ?_
    · rintro rfl
      iterate 24 walk1
      (with_reducible rename Fr _ _ _ _ => F8); (with_reducible rename News _ _ _ _ => N8)
      exact ExPost.mk (ext := [.int 0 _]) F8 N8 (fun p hp => .tail _ (.tail _ (.tail _ hp))) (.inl ⟨rfl, _, rfl⟩)
    · rintro rfl
      iterate 24 walk1
      (with_reducible rename Fr _ _ _ _ => F8); (with_reducible rename News _ _ _ _ => N8)
      exact ExPost.mk (ext := [.int 127 _, .int 1 _]) F8 N8 (fun p hp => .tail _ (.tail _ (keep_1 hp))) (.inr (.inl ⟨rfl, _, _, rfl⟩))
    · rintro rfl
      iterate 24 walk1
      (with_reducible rename Fr _ _ _ _ => F8); (with_reducible rename News _ _ _ _ => N8)
      exact ExPost.mk (ext := []) F8 N8 (fun p hp => keep_2 hp) (.inr (.inr ⟨rfl, rfl⟩))
    intro h8 tk8 D8 ext n8 F8 N8 hext
    clear F6 N7
    refine' kmk_add_lit (zs := [.int x tx, .int y ty, .int z tz] ++ ext) ?yF ?yN ?ya ?yb ?ye ?_ ?yz
    case yF => exact F8
    case yN => exact N8
    case ya => exact News.isList N8 (.tail _ (.head _))
    case yb => exact News.isList N8 (.head _)
    case ye => rfl
    case yz => rw [sizeLine_eq]; have := hext.len; simp only [List.length_cons, List.length_nil]; omega
    intro D9 h9 F9 N9 l9
    clear F8 N8
    iterate 4 walk1
    (with_reducible rename (hd.heap_1 _).In _ => X9); (with_reducible rename Top topProg _ _ _ _ _ => T9); (with_reducible rename Below _ _ _ _ => B9)
    obtain ⟨ys, xs, v1, v2, v3, v4, v5, v6⟩ := ext_view (tx := tx) (ty := ty) (tz := tz) hx hy hz3 hext
    refine wpAny_call ?_
    refine' steps_spec (kk := 40) (items := [.int x tx, .int y ty, .int z tz] ++ ext) (ys := ys) (xs := xs) ?y1 ?y2 ?y3 v2 v3 v4 ?y4 hkd1 ?y5 ?y6 ?y7 ?y8 ?y9 ?_
    case y1 => simp only [List.length_append, List.length_cons, List.length_nil]; omega
    case y2 => exact v5
    case y3 => exact v1
    case y8 => exact F9
    case y9 => exact N9
    case y4 => exact .head _
    case y5 => show AllBare _; rw [hgens]; exact AllBare.empty
    case y6 => decide
    case y7 => exact Cx.mk' (kk := 41) B9 X9 T9 rfl rfl rfl (by decide) (by decide) rfl (by decide) (.inl rfl)
    intro h10 tk10 G10 D10 vs10 k10 j10 hG10 F10 hj hj4 hvs N10
    clear F9 N9
    obtain ⟨w1, w2⟩ := ks_of hx hy hz3 hkd1 v6 hj hj4
    generalize hks : (dueTo kd xs j10).take 4 = ks at *
    have N11 : News _ _ _ _ := fun p hp => N10 p (keep_3 hp)
    clear N10
    (with_reducible rename _ = Data.cell (bc _ (Str.ofString "told")) => hc4)
    (with_reducible rename _ = Data.cell (bc _ (Str.ofString "stock")) => hc3)
    (with_reducible rename _ = Data.cell (bc _ (Str.ofString "steps")) => hc2)
    have n4 := ne_cell N11 (.head _) (.tail _ (.tail _ (.head _))) hc4
    have n3 := ne_cell N11 (.head _) (.tail _ (.tail _ (.tail _ (.head _)))) hc3
    have n2 := ne_cell N11 (.head _) (.tail _ (.tail _ (.tail _ (.tail _ (.head _))))) hc2
    (with_reducible rename (Obj.data _) = Data.cell (some _) => hc1)
    have n1 := ne_cell N11 (.head _) (.tail _ (.tail _ (.tail _ (.tail _ (.tail _ (.head _)))))) hc1
    have n0 := ne_tab N11 (.head _) (.tail _ (.tail _ (.tail _ (.tail _ (.tail _ (.tail _ (.head _)))))))
    dsimp only
    iterate 20 walk1
    try dsimp only
    (with_reducible rename Fr _ _ _ _ => F12); (with_reducible rename News _ _ _ _ => N12)
    have w3 := due_dec w2
    refine wpAny_call ?_
    refine' due_any (kk := 40) (a := x) (b := y) (c := z) (ta := tx) (tb := ty) (tc := tz) ?y0 ?y1 hx hy hz3 hkd1 ?y6 ?y7 ?y8 ?y9 ?_
    case y8 => exact F12
    case y9 => exact N12
    case y0 => first | exact w3.1 | exact w3.2
    case y1 => exact .tail _ (.head _)
    case y6 => decide
    case y7 => exact Cx.mk' (kk := 41) B9 X9 T9 rfl rfl rfl (by decide) (by decide) rfl (by decide) (.inl rfl)
    intro h13 tk13 D13 vs13 k13 F13 hv13 N13
    clear F12 N12
    iterate 1 walk1
    have N14 : News _ _ _ _ := fun p hp => N13 p (keep_d hp)
    clear N13
    iterate 12 walk1
    obtain ⟨tab, r0, r1, K⟩ := law_ok ks w1
    have z01 := ks_01 ks w1
    refine wpAny_call ?_
    refine' table_spec (kk := 40) (ks := ks) (tab := tab) (D := D10) hvs z01.1 z01.2 K.okq K.htab ?t1 codeHd ?t2 ?t3 ?t4 ?t5 ?t6 ?_
    case t5 => exact F13
    case t6 => exact N14
    case t1 => exact .head _
    case t3 => decide
    case t4 => exact Cx.mk' (kk := 41) B9 X9 T9 rfl rfl rfl (by decide) (by decide) rfl (by decide) (.inl rfl)
    case t2 =>
      (with_reducible rename 254 < _ => l254)
      intro p hp
      simp only [List.mem_cons, List.not_mem_nil, or_false] at hp
      rcases hp with rfl | rfl | rfl | rfl | rfl
      · exact n0
      all_goals (change @Ne Nat _ _; dsimp only; omega)
    intro h15 tk15 hd d hl ps n es ne extra F15 N15 hap HH htab9 m254
    clear F13 N14
    simp only [List.cons_append, List.nil_append] at N15
    dsimp only
    iterate 3 walk1
    (with_reducible rename Fr _ _ _ _ => F16); (with_reducible rename News _ _ _ _ => N16)
    refine Assign_ListComp_Tu F16 (by rfl) (by with_unfolding_all rfl) (by with_unfolding_all rfl) (by decide) (by rfl) (by decide) (by decide) (by rfl) (by rfl) (fun _ => rfl) ?_
    iterate 7 walk1
    (with_reducible rename Fr _ _ _ _ => F17); (with_reducible rename News _ _ _ _ => N17)
    refine' SrcTu.mk ?uh ?uF ?uN ?um ?us ?_
    case uF => exact F17
    case uN => exact N17
    case um => exact .head _
    case uh => rfl
    case us => exact Nat.le_of_ble_eq_true rfl
    intro g9
    clear F17 N17
    with_unfolding_all refine LCg.CompRest.succ (k := 1) ?_
    intro v1 I1 oI1 C1 oC1 D1 m1 h18 tk18 E1 hv1 hC1 hx1 F18 N18 off1 ne1
    obtain rfl := Option.some.inj (show some _ = some v1 from hv1)
    clear hv1
    iterate 10 walk1
    have hk8 : ks.length ≤ 8 := by have := z01.2; omega
    refine wpAny_call ?_
    refine' written_spec (kk := 40) hvs ?w0 hk8 K.hw0 ?w1 ?w2 ?w3 ?w4 ?_
    case w3 => exact F18
    case w4 => exact N18
    case w0 => exact .tail _ (.tail _ (.tail _ (.tail _ (.head _))))
    case w1 => decide
    case w2 => exact Cx.mk' (kk := 41) B9 X9 T9 rfl rfl rfl (by decide) (by decide) rfl (by decide) (.inl rfl)
    intro h19 tk19 t19 _ F19 N19
    clear F18 N18 ne1
    dsimp only
    refine LCg.CompEnd.intro F19 N19 _ (fun _ hp => hp) off1 ⟨_, .head _, rfl, _, rfl⟩ ?_
    clear F19 N19 off1
    with_unfolding_all refine LCg.CompRest.succ (k := 0) ?_
    intro v1 I1 oI1 C1 oC1 D1 m1 h18 tk18 E1 hv1 hC1 hx1 F18 N18 off1 ne1
    obtain rfl := Option.some.inj (show some _ = some v1 from hv1)
    clear hv1
    iterate 10 walk1
    refine wpAny_call ?_
    refine' written_spec (kk := 40) hvs ?w0 hk8 K.hw1 ?w1 ?w2 ?w3 ?w4 ?_
    case w3 => exact F18
    case w4 => exact N18
    case w0 => exact .tail _ (.tail _ (.tail _ (.tail _ (.head _))))
    case w1 => decide
    case w2 => exact Cx.mk' (kk := 41) B9 X9 T9 rfl rfl rfl (by decide) (by decide) rfl (by decide) (.inl rfl)
    intro h19 tk19 u19 _ F19 N19
    clear F18 N18 ne1
    dsimp only
    refine LCg.CompEnd.intro F19 N19 _ (fun _ hp => hp) off1 ⟨_, .head _, rfl, _, rfl⟩ ?_
    clear F19 N19 off1
    refine LCg.CompRest.zero ?_
    intro D20 h20 tk20 F20 N20 off20
    have N21 : News _ _ _ _ := fun p hp => N20 p (keep_1 hp)
    clear N20
    have e4 := fun p hp => hap p hp _ (.tail _ (.head _))
    have e3 := fun p hp => hap p hp _ (.tail _ (.tail _ (.head _)))
    have e2 := fun p hp => hap p hp _ (.tail _ (.tail _ (.tail _ (.head _))))
    have e1 := fun p hp => hap p hp _ (.tail _ (.tail _ (.tail _ (.tail _ (.head _)))))
    have e0 := fun p hp => hap p hp _ (.head _)
    dsimp only at e4 e3 e2 e1 e0
    simp only [LCg.Off1] at off20
    obtain ⟨-, f10, f4, f3, f2, f1, fx⟩ := off20
    have fx := off1_mem fx
    simp only [List.nil_append, List.cons_append] at N21
    dsimp only
    have hl0 := K.l0
    have hl1 := K.l1
    have hls := K.ls
    iterate 28 walk1
    (with_reducible rename Fr _ _ _ _ => F22); (with_reducible rename News _ _ _ _ => N22)
    (with_reducible rename (Obj.data _) = Data.cell (some (Value.str _ _)) => hst)
    (with_reducible rename (@LT.lt Nat _ D20 _) ∧ _ => l22)
    obtain ⟨nl, hnl⟩ : ∃ nl, nl = adr1 N22 := ⟨_, rfl⟩
    dsimp only [adr1] at hnl
    subst hnl
    obtain ⟨bs, b1, b2, b3, b4, b5, b6, b7, N23⟩ := law_base N22 l22 ⟨by omega, by omega, by omega⟩ n4 f4 e4 HH m254
    have hpl9 : ps.length ≤ 1000 := by have := K.lt; rw [← htab9, List.length_map] at this; exact Nat.le_trans this (by decide)
    have hps9 : ∀ p ∈ ps, p.k.length ≤ 100000 := fun p hp => Nat.le_trans (K.lk (p.k, p.v) (by rw [← htab9]; exact List.mem_map.mpr ⟨p, hp, rfl⟩)) (by decide)
    clear N22 l22 hap HH m254 e0 e1 e2 e3 e4 f10 f4 f3 f2 f1 fx n0 n1 n2 n3 n4 hx hy hz3 hkd1 hen1 hext l9 v1 v2 v3 v4 v5 v6 hj hj4 hks w1 w2 w3 hv13 z01 hc1 hc2 hc3
    iterate 18 walk1
    (with_reducible rename IsRange _ _ _ _ _ _ _ _ => hR)
    (with_reducible rename Fr _ _ _ _ => F23); (with_reducible rename News _ _ _ _ => N24)
    (with_reducible rename (Obj.data _) = Data.cell (bc _ (Str.ofString "told")) => hc4)
    refine' rng_iter (k := (stockOf r0 r1).length + 1) ?rR ?rkz ?rk ?rH ?rF ?rN (NJ nl D20 hd (S.heap.objs.size + 1 + 1 + 1 + 1) r0 r1 bs) ?rh0 ?rstep ?rdone
    case rR => exact hR
    case rkz => first | rfl | simp [stockOf]
    case rk => omega
    case rH => exact rfl
    case rF => exact F23
    case rN => exact N24
    case rh0 => exact ⟨rfl, rfl, rfl, [], _, _, _, rfl, .nil, hc4⟩
    case rstep =>
      rintro i ti m₁ news₁ s₁ I oI ⟨h8, tk8, rfl⟩ hi ⟨g1, g2, g3, vs, k9, o9, v9, rfl, hss, ho9⟩ hI hIs F25 N25
      rw [two_back (x := Str.ofString "names") (y := Str.ofString "rows") m₁, g1, g2] at F25
      rw [one_back (x := Str.ofString "table") m₁, g3] at F25
      have hIn := hI _ (.head _)
      have hIc := hI _ (.tail _ (.head _))
      have hIb : ∀ p ∈ bs, p.1 ≠ I := fun p hp => hI p (.tail _ (.tail _ hp))
      dsimp only at hIn hIc
      obtain ⟨RR, hRn, hRc, hRI, mrows, mst, HR, N26⟩ := turn_base N25 b1 b2 b3 b4 hI
      obtain ⟨kn1, kn2, kn3⟩ := K.nlen i hi
      obtain ⟨ku1, ku2⟩ := K.nup i hi
      obtain ⟨pt, kt1, kt2⟩ := K.told i hi
      clear F23 N24 N25 hR
      dsimp only [envOfC] at F25 N26
      iterate 10 walk1
      (with_reducible rename Fr _ _ _ _ => F27); (with_reducible rename News _ _ _ _ => N27)
      refine LCg.ListComp_U (F₀ := F27) (by with_unfolding_all rfl) (by decide) (by rfl) (by decide) (by decide) ?_ (fun _ => rfl)
      iterate 1 walk1
      refine' LCg.CompSrc.ledger ?uh ?uF ?uN ?um ?us ?_
      case uF => exact F27
      case uN => exact N27
      case um => exact .tail _ (.tail _ mrows)
      case uh => rfl
      case us => exact Nat.le_of_ble_eq_true rfl
      intro g28
      clear F27 N27
      with_unfolding_all refine LCg.CompRest.succ (k := 1) ?_
      intro v1 I1 oI1 C1 oC1 D1 m1 h28 tk28 E1 hv1 hC1 hx1 F28 N28 off1 ne1
      obtain rfl := Option.some.inj (show some (Value.str r0 t19) = some v1 from hv1)
      clear hv1
      iterate 22 walk1
      (with_reducible rename Fr _ _ _ _ => F29); (with_reducible rename News _ _ _ _ => N29)
      refine LCg.CompEnd.intro F29 N29 _ (fun _ hp => hp) off1 (.inr ⟨_, .tail _ (.tail _ mrows), rfl, _, rfl⟩) ?_
      clear F29 N29 off1 ne1
      with_unfolding_all refine LCg.CompRest.succ (k := 0) ?_
      intro v1 I1 oI1 C1 oC1 D1 m1 h28 tk28 E1 hv1 hC1 hx1 F28 N28 off1 ne1
      obtain rfl := Option.some.inj (show some (Value.str r1 u19) = some v1 from hv1)
      clear hv1
      iterate 22 walk1
      (with_reducible rename Fr _ _ _ _ => F29); (with_reducible rename News _ _ _ _ => N29)
      refine LCg.CompEnd.intro F29 N29 _ (fun _ hp => hp) off1 (.inr ⟨_, .tail _ (.tail _ mrows), rfl, _, rfl⟩) ?_
      clear F29 N29 off1 ne1
      refine LCg.CompRest.zero ?_
      intro D30 h30 tk30 F30 N30 off30
      revert F30 N30
      repeat ((with_reducible rename Fr _ _ _ _ => Fz); clear Fz)
      repeat ((with_reducible rename News _ _ _ _ => Nz); clear Nz)
      intro F30 N30
      iterate 2 walk1
      refine show wpAny _ _ (storeName _ _ (Value.str (pre0 r0 r1 i) _)) _ _ _ from ?_
      have hL : lnm r0 r1 i = Txt.replace (Txt.replace (pre0 r0 r1 i) (Str.ofString "a") (Str.ofString "&")) (Str.ofString "b") (Str.ofString "amp;") := rfl
      generalize pre0 r0 r1 i = P0 at kn2 kn3 hL ⊢
      have N31 : News _ _ _ _ := fun p hp => N30 p (.tail _ hp)
      clear N30 off30
      iterate 1 walk1
      ((with_reducible refine wpAny_execs_cons ?_); try dsimp only)
      iterate 16 walk1
      refine' replC ?ru ?rv ?re ?rx ?rz ?rt ?_
      case ru => exact Nat.le_add_left 1 _
      case rv => rfl
      case re => decide
      case rx => exact Nat.le_trans kn2 (by decide)
      case rz => decide
      case rt => exact Nat.le_add_left 1 _
      intro t32 k32 hk32
      generalize Txt.replace P0 (Str.ofString "a") (Str.ofString "&") = P1 at kn3 hL ⊢
      try dsimp only
      iterate 7 walk1
      refine' replC ?ru ?rv ?re ?rx ?rz ?rt ?_
      case ru => exact hk32
      case rv => rfl
      case re => decide
      case rx => exact Nat.le_trans kn3 (by decide)
      case rz => decide
      case rt => exact Nat.le_add_left 1 _
      intro t33 k33 hk33
      generalize Txt.replace P1 (Str.ofString "b") (Str.ofString "amp;") = P2 at hL ⊢
      rw [hL] at kn1 ku1 ku2 kt1
      clear kn2 kn3
      try dsimp only
      iterate 1 walk1
      (with_reducible rename Fr _ _ _ _ => F34); (with_reducible rename News _ _ _ _ => N34)
      have hvl : vs.length = i := by rw [hss.length, List.length_map, List.length_range]
      have hi61 : i ≤ 61 := Nat.le_trans (Nat.le_of_lt hi) (Nat.succ_le_succ hls)
      refine' append_K F34 N34 (Upd.head ?au) ?_ ?az
      case au =>
        intro p hp
        rcases List.mem_cons.mp hp with rfl | hp
        · exact Nat.ne_of_lt b6
        · exact hRn p hp
      case az => rw [List.size_toArray, hvl]; exact Nat.le_trans hi61 (Nat.le_of_ble_eq_true rfl)
      intro h35 F35 N35
      rw [List.push_toArray] at N35
      clear F34 N34
      have hs2 : StrsAre (vs ++ [Value.str P2 t33]) ((List.range (i + 1)).map (lnm r0 r1)) := by
        rw [List.range_succ, List.map_append, List.map_cons, List.map_nil, hL]
        exact StrsAre.append' hss (.cons _ _ .nil)
      have hitem : (vs ++ [Value.str P2 t33])[i]? = some (Value.str P2 t33) := by
        rw [List.getElem?_append_right (Nat.le_of_eq hvl), hvl, Nat.sub_self]; rfl
      generalize vs ++ [Value.str P2 t33] = vs2 at hs2 hitem N35 ⊢
      obtain ⟨hm1, hm2, hg1, hm3, hm4, hg2, hg3, hg4, hg5⟩ := id HR
      try dsimp only
      have hi63 : (i : Int) < 2 ^ 63 := Int.lt_of_le_of_lt (Int.ofNat_le.mpr hi61) (by decide)
      have hf0 := kt1
      rw [← htab9, find_kv] at hf0
      obtain ⟨p0, hf0, hp0⟩ := Option.map_eq_some_iff.mp hf0
      have hv0 : p0.v = nstr i := by have := kt2; rw [← hp0] at this; exact this
      have hne : (p0.v != nstr i) = false := by rw [hv0]; simp
      clear kt1 kt2 hp0
      iterate 13 walk1
      refine' item_litK (vs := vs2) ?i1 ?i2 ?i3 ?i4 ?_ ?i5
      case i1 => exact News.isList N35 (.head _)
      case i2 => exact Int.natCast_nonneg i
      case i3 => exact hi63
      case i4 => exact hitem
      case i5 => with_unfolding_all rfl
      iterate 3 walk1
      iterate 4 walk1
      refine wpAny_call ?_
      refine' hdef_some (kk := 40) (p := p0) ku2 (Nat.le_trans ku1 (by decide)) hps9 hpl9 ?h1 ?h2 ?h3 ?h4 (HR.mono ?h5) hf0 ?_
      case h3 => exact F35
      case h4 => exact N35
      case h5 => exact fun p hp => .tail _ (.tail _ hp)
      case h1 => decide
      case h2 => exact Cx.mk' (kk := 41) B9 X9 T9 rfl rfl rfl (by decide) (by decide) rfl (by decide) (.inl rfl)
      intro h36 k36 F36 N36
      clear F35 N35
      try dsimp only
      iterate 21 walk1
      refine' item_litK (vs := vs2) ?i1 ?i2 ?i3 ?i4 ?_ ?i5
      case i1 => exact News.isList N36 (.head _)
      case i2 => exact Int.natCast_nonneg i
      case i3 => exact hi63
      case i4 => exact hitem
      case i5 => with_unfolding_all rfl
      iterate 5 walk1
      refine wpAny_call ?_
      refine' hget_some (kk := 40) (p := p0) ku2 (Nat.le_trans ku1 (by decide)) hps9 hpl9 ?h1 ?h2 ?h3 ?h4 (HR.mono ?h5) hf0 ?_
      case h3 => exact F36
      case h4 => exact N36
      case h5 => exact fun p hp => .tail _ (.tail _ hp)
      case h1 => decide
      case h2 => exact Cx.mk' (kk := 41) B9 X9 T9 rfl rfl rfl (by decide) (by decide) rfl (by decide) (.inl rfl)
      intro h37 k37 F37 N37
      clear F36 N36
      try dsimp only
      iterate 14 walk1
      try dsimp only
      iterate 1 walk1
      try dsimp only
      (with_reducible rename Fr _ _ _ _ => F38); (with_reducible rename News _ _ _ _ => N38)
      (with_reducible rename (Obj.data _) = Data.cell (some (Value.int _ _)) => ho8)
      rw [hRI] at N38
      refine RNext.mk F38 (perm2 N38) (fun p hp => ?_) ⟨rfl, rfl, rfl, vs2, _, _, _, rfl, hs2, ho8⟩
      rcases List.mem_cons.mp hp with rfl | hp
      · exact hIn
      rcases List.mem_cons.mp hp with rfl | hp
      · exact hIc
      exact hIb p hp
    case rdone =>
      rintro h8 tk8 m₂ news₂ F40 N40 ⟨g1, g2, g3, vs, k9, o9, v9, rfl, hss, ho9⟩
      rw [two_back (x := Str.ofString "names") (y := Str.ofString "rows") m₂, g1, g2] at F40
      rw [one_back (x := Str.ofString "table") m₂, g3] at F40
      obtain ⟨hm1, hm2, hg1, hm3, hm4, hg2, hg3, hg4, hg5⟩ := id b4
      clear F23 N24
      dsimp only [envOfC] at F40 N40
      dsimp only
      iterate 11 walk1
      refine wpAny_call ?_
      refine' keys_spec (kk := 40) hpl9 ?h1 ?h2 ?h3 ?h4 (b4.mono ?h5) ?_
      case h3 => exact F40
      case h4 => exact N40
      case h5 => exact fun p hp => .tail _ (.tail _ hp)
      case h1 => decide
      case h2 => exact Cx.mk' (kk := 41) B9 X9 T9 rfl rfl rfl (by decide) (by decide) rfl (by decide) (.inl rfl)
      intro h41 k41 D41 F41 N41
      clear F40 N40
      try dsimp only
      iterate 1 walk1
      refine' sorted_N_str (vs := ps.map hkey) (ss := ps.map fun p => p.k) ?s1 ?s2 ?s3 ?s4 ?s5 ?_
      case s1 => exact F41
      case s2 => exact N41
      case s3 => exact News.isList N41 (.head _)
      case s4 => exact keys_strs ps
      case s5 => have := K.lt; rw [← htab9, List.length_map] at this; rw [List.length_map]; exact Nat.lt_succ_of_le this
      intro h42 vs42 ss42 e42 F42 N42 hS42 hp42 hs42
      clear F41 N41
      try dsimp only
      iterate 6 walk1
      refine' sorted_N_str (vs := vs) (ss := (List.range ((stockOf r0 r1).length + 1)).map (lnm r0 r1)) ?s1 ?s2 ?s3 ?s4 ?s5 ?_
      case s1 => exact F42
      case s2 => exact N42
      case s3 => exact News.isList N42 (.tail _ (.tail _ (.head _)))
      case s4 => exact hss
      case s5 => rw [hss.length, List.length_map, List.length_range]; exact Nat.lt_succ_of_le (Nat.le_trans (Nat.succ_le_succ hls) (by decide))
      intro h43 vs43 ss43 e43 F43 N43 hS43 hp43 hs43
      clear F42 N42
      have hsame : ss43 = ss42 := sorted_same hs43 hs42 (hp43.trans ((K.perm.symm.trans (by rw [← htab9, List.map_map]; exact .refl _)).trans hp42.symm))
      rw [hsame] at hS43
      have hok42 : ∀ x ∈ ss42, okS x = true := fun x hx => by
        obtain ⟨p, hp, rfl⟩ := List.mem_map.mp (hp42.mem_iff.mp hx)
        exact K.okk (p.k, p.v) (by rw [← htab9]; exact List.mem_map.mpr ⟨p, hp, rfl⟩)
      clear hs42 hs43 hp42 hp43 hss hsame
      try dsimp only
      refine eq_dataH (reads_list_at (N43 _ (.tail _ (.head _))).1 rfl rfl (StrsAre.reads _ hS42)) (reads_list_at (N43 _ (.head _)).1 rfl rfl (StrsAre.reads _ hS43)) (shaped_strs hok42) (shaped_strs hok42) (by first | units_room | exact Nat.le_of_ble_eq_true rfl) ?_
      rw [eqv_strs hok42]
      obtain ⟨q254, b5⟩ := b5
      refine ⟨⟨⟨.inl ⟨_, _, [], rfl, fun _ => rfl, ReadsW.bool true, ?fpost, fun _ => ⟨List.nodup_nil, fun _ hm => (nomatch hm)⟩⟩, ?fkeep, rfl, rfl⟩, hG10⟩, ?fgrown⟩
      case fpost => first | rfl | wrow_post
      case fkeep => exact F43.keep
      case fgrown => exact ⟨GrownAt.of N43 (.tail _ (.tail _ (.tail _ (.tail _ (.tail _ b5))))), True.intro⟩)

end Mine

theorem PySem.Challenge.cw_to0068_01_holds : PySem.Challenge.rw_to0068_01.Holds :=
  Mine.law_holds
