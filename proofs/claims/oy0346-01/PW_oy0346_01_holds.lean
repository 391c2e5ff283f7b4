import PyProof.Rows.All
import Wide.All
import OpenK.AllK
import Wide.FinOn
import Lean
import PySem.Challenge.RW_oy0346_01
open PySem PySem.W PySem.Calls PyProof.Rows
open PySem.Builtin.Str (strSliceIndices occurrences)
set_option Elab.async false
set_option maxRecDepth 100000
set_option maxHeartbeats 8000000
set_option linter.all false
set_option genInjectivity false
set_option genSizeOf false
set_option genSizeOfSpec false
set_option bootstrap.genMatcherCode false
open PySem PySem.W PyProof.Rows
namespace Mine
noncomputable def stN (i : Nat) : Stmt := PySem.Challenge.pw_oy0346_01.main.body.getD i (.Pass ⟨0, 0, 0, 0⟩)
noncomputable def st0 : Stmt := stN 0
noncomputable def st1 : Stmt := stN 1
noncomputable def st2 : Stmt := stN 2
noncomputable def st3 : Stmt := stN 3
noncomputable def st4 : Stmt := stN 4
noncomputable def st5 : Stmt := stN 5
noncomputable def st6 : Stmt := stN 6
noncomputable def st7 : Stmt := stN 7
noncomputable def st8 : Stmt := stN 8
noncomputable def st9 : Stmt := stN 9
noncomputable def st10 : Stmt := stN 10
noncomputable def st11 : Stmt := stN 11
noncomputable def st12 : Stmt := stN 12
noncomputable def st13 : Stmt := stN 13
noncomputable def st14 : Stmt := stN 14
noncomputable def st15 : Stmt := stN 15
noncomputable def st16 : Stmt := stN 16
noncomputable def st17 : Stmt := stN 17
noncomputable def st18 : Stmt := stN 18
noncomputable def st19 : Stmt := stN 19
noncomputable def st20 : Stmt := stN 20
noncomputable def st21 : Stmt := stN 21
noncomputable def st22 : Stmt := stN 22
noncomputable def st23 : Stmt := stN 23
noncomputable def st24 : Stmt := stN 24
noncomputable def st25 : Stmt := stN 25
noncomputable def st26 : Stmt := stN 26
noncomputable def st27 : Stmt := stN 27
noncomputable def st28 : Stmt := stN 28
noncomputable def st29 : Stmt := stN 29
noncomputable def st30 : Stmt := stN 30
noncomputable def st31 : Stmt := stN 31
noncomputable def st32 : Stmt := stN 32
noncomputable def st33 : Stmt := stN 33
noncomputable def st34 : Stmt := stN 34
noncomputable def st35 : Stmt := stN 35
noncomputable def st36 : Stmt := stN 36
noncomputable def st37 : Stmt := stN 37
noncomputable def st38 : Stmt := stN 38
noncomputable def st39 : Stmt := stN 39
noncomputable def st40 : Stmt := stN 40
noncomputable def st41 : Stmt := stN 41
noncomputable def st42 : Stmt := stN 42
noncomputable def st43 : Stmt := stN 43
noncomputable def st44 : Stmt := stN 44
noncomputable def scM : Scope := PySem.Challenge.pw_oy0346_01.main.scope
noncomputable def pw : Program := { main := { body := [st0, st1, st2, st3, st4, st5, st6, st7, st8, st9, st10, st11, st12, st13, st14, st15, st16, st17, st18, st19, st20, st21, st22, st23, st24, st25, st26, st27, st28, st29, st30, st31, st32, st33, st34, st35, st36, st37, st38, st39, st40, st41, st42, st43, st44], scope := scM, futureAnnotations := false, file := "/claim/cut.py", more := [] }, modules := [], parses := [], absent := [], harvested := [], given := PySem.Challenge.pw_oy0346_01.given }
noncomputable def rw : OpenLaw := { prog := pw, name := Str.ofString "law", about := [Str.ofString "TopologicalSorter", Str.ofString "add"], foot := 10, most := some 63, bound := none, writes := false }
theorem rw_eq : PySem.Challenge.rw_oy0346_01 = rw := rfl
noncomputable def cst (i j : Nat) : Stmt := match stN i with
  | .ClassDef _ _ _ body _ _ _ _ _ _ _ => body.getD j (.Pass ⟨0, 0, 0, 0⟩)
  | s => s
noncomputable def fArgs : Stmt → Arguments
  | .FunctionDef _ a _ _ _ _ _ _ _ _ => a
  | _ => ⟨[], [], none, [], [], none, []⟩
noncomputable def fBody : Stmt → List Stmt
  | .FunctionDef _ _ b _ _ _ _ _ _ _ => b
  | _ => []
noncomputable def fScope : Stmt → Scope
  | .FunctionDef _ _ _ _ _ _ sc _ _ _ => sc
  | _ => { kind := .function, names := [], isGenerator := false, isCoroutine := false }
noncomputable def k3 (P : Params) : Obj := { cls := Value.type "dict", data := Data.dict #[{ hash := PyData.keyHash P (Str.ofString "__name__"), key := Value.str (Str.ofString "__name__") 165, val := Value.str (Str.ofString "law_oy0346_01") 535 }, { hash := PyData.keyHash P (Str.ofString "__doc__"), key := Value.str (Str.ofString "__doc__") 166, val := Value.none }, { hash := PyData.keyHash P (Str.ofString "__package__"), key := Value.str (Str.ofString "__package__") 167, val := Value.none }, { hash := PyData.keyHash P (Str.ofString "__loader__"), key := Value.str (Str.ofString "__loader__") 168, val := Value.builtin "__main__.__loader__#opaque" }, { hash := PyData.keyHash P (Str.ofString "__spec__"), key := Value.str (Str.ofString "__spec__") 169, val := Value.none }, { hash := PyData.keyHash P (Str.ofString "__annotations__"), key := Value.str (Str.ofString "__annotations__") 170, val := Value.ref 6 }, { hash := PyData.keyHash P (Str.ofString "__builtins__"), key := Value.str (Str.ofString "__builtins__") 171, val := Value.ref 4 }, { hash := PyData.keyHash P (Str.ofString "__file__"), key := Value.str (Str.ofString "__file__") 173, val := Value.str (Str.ofString "/claim/cut.py") 172 }, { hash := PyData.keyHash P (Str.ofString "__cached__"), key := Value.str (Str.ofString "__cached__") 174, val := Value.none }, { hash := PyData.keyHash P (Str.ofString "_wall"), key := Value.str (Str.ofString "_wall") 193, val := Value.ref 21 }, { hash := PyData.keyHash P (Str.ofString "_NODE_OUT"), key := Value.str (Str.ofString "_NODE_OUT") 198, val := Value.int (-1) 197 }, { hash := PyData.keyHash P (Str.ofString "_NODE_DONE"), key := Value.str (Str.ofString "_NODE_DONE") 201, val := Value.int (-2) 200 }, { hash := PyData.keyHash P (Str.ofString "_NodeInfo"), key := Value.str (Str.ofString "_NodeInfo") 238, val := Value.ref 40 }, { hash := PyData.keyHash P (Str.ofString "CycleError"), key := Value.str (Str.ofString "CycleError") 256, val := Value.ref 55 }, { hash := PyData.keyHash P (Str.ofString "TopologicalSorter"), key := Value.str (Str.ofString "TopologicalSorter") 375, val := Value.ref 137 }, { hash := PyData.keyHash P (Str.ofString "_netrclex"), key := Value.str (Str.ofString "_netrclex") 435, val := Value.ref 179 }, { hash := PyData.keyHash P (Str.ofString "S_IMODE"), key := Value.str (Str.ofString "S_IMODE") 444, val := Value.ref 190 }, { hash := PyData.keyHash P (Str.ofString "S_IFMT"), key := Value.str (Str.ofString "S_IFMT") 451, val := Value.ref 197 }, { hash := PyData.keyHash P (Str.ofString "S_IFDIR"), key := Value.str (Str.ofString "S_IFDIR") 453, val := Value.int 16384 452 }, { hash := PyData.keyHash P (Str.ofString "S_IFCHR"), key := Value.str (Str.ofString "S_IFCHR") 455, val := Value.int 8192 454 }, { hash := PyData.keyHash P (Str.ofString "S_IFBLK"), key := Value.str (Str.ofString "S_IFBLK") 457, val := Value.int 24576 456 }, { hash := PyData.keyHash P (Str.ofString "S_IFREG"), key := Value.str (Str.ofString "S_IFREG") 459, val := Value.int 32768 458 }, { hash := PyData.keyHash P (Str.ofString "S_IFIFO"), key := Value.str (Str.ofString "S_IFIFO") 461, val := Value.int 4096 460 }, { hash := PyData.keyHash P (Str.ofString "S_IFLNK"), key := Value.str (Str.ofString "S_IFLNK") 463, val := Value.int 40960 462 }, { hash := PyData.keyHash P (Str.ofString "S_IFSOCK"), key := Value.str (Str.ofString "S_IFSOCK") 465, val := Value.int 49152 464 }, { hash := PyData.keyHash P (Str.ofString "S_ISDIR"), key := Value.str (Str.ofString "S_ISDIR") 472, val := Value.ref 204 }, { hash := PyData.keyHash P (Str.ofString "S_ISUID"), key := Value.str (Str.ofString "S_ISUID") 474, val := Value.int 2048 473 }, { hash := PyData.keyHash P (Str.ofString "S_ISGID"), key := Value.str (Str.ofString "S_ISGID") 476, val := Value.int 1024 475 }, { hash := PyData.keyHash P (Str.ofString "S_ISVTX"), key := Value.str (Str.ofString "S_ISVTX") 478, val := Value.int 512 477 }, { hash := PyData.keyHash P (Str.ofString "S_IRUSR"), key := Value.str (Str.ofString "S_IRUSR") 480, val := Value.int 256 479 }, { hash := PyData.keyHash P (Str.ofString "S_IWUSR"), key := Value.str (Str.ofString "S_IWUSR") 482, val := Value.int 128 481 }, { hash := PyData.keyHash P (Str.ofString "S_IXUSR"), key := Value.str (Str.ofString "S_IXUSR") 484, val := Value.int 64 483 }, { hash := PyData.keyHash P (Str.ofString "S_IRGRP"), key := Value.str (Str.ofString "S_IRGRP") 486, val := Value.int 32 485 }, { hash := PyData.keyHash P (Str.ofString "S_IWGRP"), key := Value.str (Str.ofString "S_IWGRP") 488, val := Value.int 16 487 }, { hash := PyData.keyHash P (Str.ofString "S_IXGRP"), key := Value.str (Str.ofString "S_IXGRP") 490, val := Value.int 8 489 }, { hash := PyData.keyHash P (Str.ofString "S_IROTH"), key := Value.str (Str.ofString "S_IROTH") 492, val := Value.int 4 491 }, { hash := PyData.keyHash P (Str.ofString "S_IWOTH"), key := Value.str (Str.ofString "S_IWOTH") 494, val := Value.int 2 493 }, { hash := PyData.keyHash P (Str.ofString "S_IXOTH"), key := Value.str (Str.ofString "S_IXOTH") 496, val := Value.int 1 495 }, { hash := PyData.keyHash P (Str.ofString "_filemode_table"), key := Value.str (Str.ofString "_filemode_table") 522, val := Value.ref 237 }, { hash := PyData.keyHash P (Str.ofString "filemode"), key := Value.str (Str.ofString "filemode") 534, val := Value.ref 244 }, { hash := PyData.keyHash P (Str.ofString "_law_files"), key := Value.str (Str.ofString "_law_files") 551, val := Value.ref 251 }, { hash := PyData.keyHash P (Str.ofString "_law_written"), key := Value.str (Str.ofString "_law_written") 561, val := Value.ref 258 }, { hash := PyData.keyHash P (Str.ofString "_law_lexer"), key := Value.str (Str.ofString "_law_lexer") 573, val := Value.ref 265 }, { hash := PyData.keyHash P (Str.ofString "_law_seen"), key := Value.str (Str.ofString "_law_seen") 579, val := Value.ref 270 }, { hash := PyData.keyHash P (Str.ofString "_law_levels"), key := Value.str (Str.ofString "_law_levels") 585, val := Value.ref 275 }, { hash := PyData.keyHash P (Str.ofString "_law_last"), key := Value.str (Str.ofString "_law_last") 597, val := Value.ref 282 }, { hash := PyData.keyHash P (Str.ofString "_law_shows"), key := Value.str (Str.ofString "_law_shows") 603, val := Value.ref 287 }, { hash := PyData.keyHash P (Str.ofString "_law_shut"), key := Value.str (Str.ofString "_law_shut") 611, val := Value.ref 294 }, { hash := PyData.keyHash P (Str.ofString "_law_handed"), key := Value.str (Str.ofString "_law_handed") 617, val := Value.ref 299 }, { hash := PyData.keyHash P (Str.ofString "law"), key := Value.str (Str.ofString "law") 623, val := Value.ref 304 }] 50 }
noncomputable def k35 (_ : Params) : Obj := { cls := Value.type "code", data := Data.fields #[Value.str (Str.ofString "__init__") 218, Value.str (Str.ofString "_NodeInfo.__init__") 219, Value.str (Str.ofString "/claim/cut.py") 220, Value.int 10 0, Value.int 2 0, Value.int 0 0, Value.int 0 0, Value.int 3 0, Value.ref 30, Value.bool true, Value.int 181 0, Value.ref 31, Value.none, Value.ref 32, Value.ref 33, Value.ref 34, Value.int 223 0, Value.int 10 0, Value.str (Str.ofString "/claim/cut.py") 224] }
noncomputable def f36 : FuncData := { name := Str.ofString "__init__", qualname := Str.ofString "_NodeInfo.__init__", params := fArgs (cst 4 1), body := FuncBody.stmts (fBody (cst 4 1)), scope := fScope (cst 4 1), globals := 3, closure := [], defaults := Value.none, kwdefaults := Value.none, pyModule := Value.str (Str.ofString "cpy313.graphlib") 194, code := Value.ref 35 }
noncomputable def k36 (_ : Params) : Obj := { cls := Value.type "function", data := Data.func f36 }
noncomputable def k39 (P : Params) : Obj := { cls := Value.type "dict", data := Data.dict #[{ hash := PyData.keyHash P (Str.ofString "__module__"), key := Value.str (Str.ofString "__module__") 209, val := Value.str (Str.ofString "cpy313.graphlib") 194 }, { hash := PyData.keyHash P (Str.ofString "__firstlineno__"), key := Value.str (Str.ofString "__firstlineno__") 213, val := Value.int 7 212 }, { hash := PyData.keyHash P (Str.ofString "__slots__"), key := Value.str (Str.ofString "__slots__") 217, val := Value.ref 29 }, { hash := PyData.keyHash P (Str.ofString "__init__"), key := Value.str (Str.ofString "__init__") 225, val := Value.ref 36 }, { hash := PyData.keyHash P (Str.ofString "__static_attributes__"), key := Value.str (Str.ofString "__static_attributes__") 229, val := Value.ref 37 }, { hash := PyData.keyHash P (Str.ofString "node"), key := Value.str (Str.ofString "node") 231, val := Value.ref 41 }, { hash := PyData.keyHash P (Str.ofString "npredecessors"), key := Value.str (Str.ofString "npredecessors") 233, val := Value.ref 42 }, { hash := PyData.keyHash P (Str.ofString "successors"), key := Value.str (Str.ofString "successors") 235, val := Value.ref 43 }, { hash := PyData.keyHash P (Str.ofString "__doc__"), key := Value.str (Str.ofString "__doc__") 236, val := Value.none }] 5 }
noncomputable def k40 (_ : Params) : Obj := { cls := Value.type "type", data := Data.cls { name := Str.ofString "_NodeInfo", bases := [Value.type "object"], mro := [Value.ref 40, Value.type "object"], ns := 39, qualname := Str.ofString "_NodeInfo", hasDict := false, slotNames := [Str.ofString "node", Str.ofString "npredecessors", Str.ofString "successors"] }, slots := #[none, none, some (Value.str (Str.ofString "_NodeInfo") 202), some (Value.str (Str.ofString "_NodeInfo") 210), some (Value.builtin "object.__new__"), some (Value.bool false)] }
noncomputable def k41 (_ : Params) : Obj := { cls := Value.type "member_descriptor", data := Data.fields #[Value.str (Str.ofString "node") 230, Value.ref 40, Value.builtin "proto.slot", Value.builtin "proto.slot#set", Value.int 2 0] }
noncomputable def k42 (_ : Params) : Obj := { cls := Value.type "member_descriptor", data := Data.fields #[Value.str (Str.ofString "npredecessors") 232, Value.ref 40, Value.builtin "proto.slot", Value.builtin "proto.slot#set", Value.int 1 0] }
noncomputable def k43 (_ : Params) : Obj := { cls := Value.type "member_descriptor", data := Data.fields #[Value.str (Str.ofString "successors") 234, Value.ref 40, Value.builtin "proto.slot", Value.builtin "proto.slot#set", Value.int 0 0] }
noncomputable def k66 (_ : Params) : Obj := { cls := Value.type "tuple", data := Data.seq #[Value.none] }
noncomputable def k72 (_ : Params) : Obj := { cls := Value.type "code", data := Data.fields #[Value.str (Str.ofString "__init__") 269, Value.str (Str.ofString "TopologicalSorter.__init__") 270, Value.str (Str.ofString "/claim/cut.py") 271, Value.int 18 0, Value.int 2 0, Value.int 0 0, Value.int 0 0, Value.int 3 0, Value.ref 67, Value.bool true, Value.int 181 0, Value.ref 68, Value.none, Value.ref 69, Value.ref 70, Value.ref 71, Value.int 276 0, Value.int 18 0, Value.str (Str.ofString "/claim/cut.py") 277] }
noncomputable def f73 : FuncData := { name := Str.ofString "__init__", qualname := Str.ofString "TopologicalSorter.__init__", params := fArgs (cst 6 0), body := FuncBody.stmts (fBody (cst 6 0)), scope := fScope (cst 6 0), globals := 3, closure := [], defaults := Value.ref 66, kwdefaults := Value.none, pyModule := Value.str (Str.ofString "cpy313.graphlib") 194, code := Value.ref 72 }
noncomputable def k73 (_ : Params) : Obj := { cls := Value.type "function", data := Data.func f73 }
noncomputable def k79 (_ : Params) : Obj := { cls := Value.type "code", data := Data.fields #[Value.str (Str.ofString "_get_nodeinfo") 279, Value.str (Str.ofString "TopologicalSorter._get_nodeinfo") 280, Value.str (Str.ofString "/claim/cut.py") 281, Value.int 27 0, Value.int 2 0, Value.int 0 0, Value.int 0 0, Value.int 3 0, Value.ref 74, Value.bool true, Value.int 181 0, Value.ref 75, Value.none, Value.ref 76, Value.ref 77, Value.ref 78, Value.int 285 0, Value.int 27 0, Value.str (Str.ofString "/claim/cut.py") 286] }
noncomputable def f80 : FuncData := { name := Str.ofString "_get_nodeinfo", qualname := Str.ofString "TopologicalSorter._get_nodeinfo", params := fArgs (cst 6 1), body := FuncBody.stmts (fBody (cst 6 1)), scope := fScope (cst 6 1), globals := 3, closure := [], defaults := Value.none, kwdefaults := Value.none, pyModule := Value.str (Str.ofString "cpy313.graphlib") 194, code := Value.ref 79 }
noncomputable def k80 (_ : Params) : Obj := { cls := Value.type "function", data := Data.func f80 }
noncomputable def k86 (_ : Params) : Obj := { cls := Value.type "code", data := Data.fields #[Value.str (Str.ofString "add") 288, Value.str (Str.ofString "TopologicalSorter.add") 289, Value.str (Str.ofString "/claim/cut.py") 290, Value.int 32 0, Value.int 2 0, Value.int 0 0, Value.int 0 0, Value.int 7 0, Value.ref 81, Value.bool true, Value.int 181 0, Value.ref 82, Value.none, Value.ref 83, Value.ref 84, Value.ref 85, Value.int 297 0, Value.int 32 0, Value.str (Str.ofString "/claim/cut.py") 298] }
noncomputable def f87 : FuncData := { name := Str.ofString "add", qualname := Str.ofString "TopologicalSorter.add", params := fArgs (cst 6 2), body := FuncBody.stmts (fBody (cst 6 2)), scope := fScope (cst 6 2), globals := 3, closure := [], defaults := Value.none, kwdefaults := Value.none, pyModule := Value.str (Str.ofString "cpy313.graphlib") 194, code := Value.ref 86 }
noncomputable def k87 (_ : Params) : Obj := { cls := Value.type "function", data := Data.func f87 }
noncomputable def k91 (_ : Params) : Obj := { cls := Value.type "code", data := Data.fields #[Value.str (Str.ofString "prepare") 300, Value.str (Str.ofString "TopologicalSorter.prepare") 301, Value.str (Str.ofString "/claim/cut.py") 302, Value.int 41 0, Value.int 1 0, Value.int 0 0, Value.int 0 0, Value.int 3 0, Value.ref 88, Value.bool true, Value.int 181 0, Value.ref 89, Value.none, Value.none, Value.none, Value.ref 90, Value.int 303 0, Value.int 41 0, Value.str (Str.ofString "/claim/cut.py") 304] }
noncomputable def f92 : FuncData := { name := Str.ofString "prepare", qualname := Str.ofString "TopologicalSorter.prepare", params := fArgs (cst 6 3), body := FuncBody.stmts (fBody (cst 6 3)), scope := fScope (cst 6 3), globals := 3, closure := [], defaults := Value.none, kwdefaults := Value.none, pyModule := Value.str (Str.ofString "cpy313.graphlib") 194, code := Value.ref 91 }
noncomputable def k92 (_ : Params) : Obj := { cls := Value.type "function", data := Data.func f92 }
noncomputable def k98 (_ : Params) : Obj := { cls := Value.type "code", data := Data.fields #[Value.str (Str.ofString "get_ready") 306, Value.str (Str.ofString "TopologicalSorter.get_ready") 307, Value.str (Str.ofString "/claim/cut.py") 308, Value.int 49 0, Value.int 1 0, Value.int 0 0, Value.int 0 0, Value.int 3 0, Value.ref 93, Value.bool true, Value.int 181 0, Value.ref 94, Value.none, Value.ref 95, Value.ref 96, Value.ref 97, Value.int 313 0, Value.int 49 0, Value.str (Str.ofString "/claim/cut.py") 314] }
noncomputable def f99 : FuncData := { name := Str.ofString "get_ready", qualname := Str.ofString "TopologicalSorter.get_ready", params := fArgs (cst 6 4), body := FuncBody.stmts (fBody (cst 6 4)), scope := fScope (cst 6 4), globals := 3, closure := [], defaults := Value.none, kwdefaults := Value.none, pyModule := Value.str (Str.ofString "cpy313.graphlib") 194, code := Value.ref 98 }
noncomputable def k99 (_ : Params) : Obj := { cls := Value.type "function", data := Data.func f99 }
noncomputable def k105 (_ : Params) : Obj := { cls := Value.type "code", data := Data.fields #[Value.str (Str.ofString "is_active") 316, Value.str (Str.ofString "TopologicalSorter.is_active") 317, Value.str (Str.ofString "/claim/cut.py") 318, Value.int 60 0, Value.int 1 0, Value.int 0 0, Value.int 0 0, Value.int 3 0, Value.ref 100, Value.bool true, Value.int 181 0, Value.ref 101, Value.none, Value.ref 102, Value.ref 103, Value.ref 104, Value.int 320 0, Value.int 60 0, Value.str (Str.ofString "/claim/cut.py") 321] }
noncomputable def f106 : FuncData := { name := Str.ofString "is_active", qualname := Str.ofString "TopologicalSorter.is_active", params := fArgs (cst 6 5), body := FuncBody.stmts (fBody (cst 6 5)), scope := fScope (cst 6 5), globals := 3, closure := [], defaults := Value.none, kwdefaults := Value.none, pyModule := Value.str (Str.ofString "cpy313.graphlib") 194, code := Value.ref 105 }
noncomputable def k106 (_ : Params) : Obj := { cls := Value.type "function", data := Data.func f106 }
noncomputable def k119 (_ : Params) : Obj := { cls := Value.type "code", data := Data.fields #[Value.str (Str.ofString "done") 330, Value.str (Str.ofString "TopologicalSorter.done") 331, Value.str (Str.ofString "/claim/cut.py") 332, Value.int 68 0, Value.int 1 0, Value.int 0 0, Value.int 0 0, Value.int 7 0, Value.ref 114, Value.bool true, Value.int 181 0, Value.ref 115, Value.none, Value.ref 116, Value.ref 117, Value.ref 118, Value.int 341 0, Value.int 68 0, Value.str (Str.ofString "/claim/cut.py") 342] }
noncomputable def f120 : FuncData := { name := Str.ofString "done", qualname := Str.ofString "TopologicalSorter.done", params := fArgs (cst 6 7), body := FuncBody.stmts (fBody (cst 6 7)), scope := fScope (cst 6 7), globals := 3, closure := [], defaults := Value.none, kwdefaults := Value.none, pyModule := Value.str (Str.ofString "cpy313.graphlib") 194, code := Value.ref 119 }
noncomputable def k120 (_ : Params) : Obj := { cls := Value.type "function", data := Data.func f120 }
noncomputable def k126 (_ : Params) : Obj := { cls := Value.type "code", data := Data.fields #[Value.str (Str.ofString "_find_cycle") 344, Value.str (Str.ofString "TopologicalSorter._find_cycle") 345, Value.str (Str.ofString "/claim/cut.py") 346, Value.int 91 0, Value.int 1 0, Value.int 0 0, Value.int 0 0, Value.int 3 0, Value.ref 121, Value.bool true, Value.int 181 0, Value.ref 122, Value.none, Value.ref 123, Value.ref 124, Value.ref 125, Value.int 354 0, Value.int 91 0, Value.str (Str.ofString "/claim/cut.py") 355] }
noncomputable def f127 : FuncData := { name := Str.ofString "_find_cycle", qualname := Str.ofString "TopologicalSorter._find_cycle", params := fArgs (cst 6 8), body := FuncBody.stmts (fBody (cst 6 8)), scope := fScope (cst 6 8), globals := 3, closure := [], defaults := Value.none, kwdefaults := Value.none, pyModule := Value.str (Str.ofString "cpy313.graphlib") 194, code := Value.ref 126 }
noncomputable def k127 (_ : Params) : Obj := { cls := Value.type "function", data := Data.func f127 }
noncomputable def k136 (P : Params) : Obj := { cls := Value.type "dict", data := Data.dict #[{ hash := PyData.keyHash P (Str.ofString "__module__"), key := Value.str (Str.ofString "__module__") 264, val := Value.str (Str.ofString "cpy313.graphlib") 194 }, { hash := PyData.keyHash P (Str.ofString "__firstlineno__"), key := Value.str (Str.ofString "__firstlineno__") 268, val := Value.int 16 267 }, { hash := PyData.keyHash P (Str.ofString "__init__"), key := Value.str (Str.ofString "__init__") 278, val := Value.ref 73 }, { hash := PyData.keyHash P (Str.ofString "_get_nodeinfo"), key := Value.str (Str.ofString "_get_nodeinfo") 287, val := Value.ref 80 }, { hash := PyData.keyHash P (Str.ofString "add"), key := Value.str (Str.ofString "add") 299, val := Value.ref 87 }, { hash := PyData.keyHash P (Str.ofString "prepare"), key := Value.str (Str.ofString "prepare") 305, val := Value.ref 92 }, { hash := PyData.keyHash P (Str.ofString "get_ready"), key := Value.str (Str.ofString "get_ready") 315, val := Value.ref 99 }, { hash := PyData.keyHash P (Str.ofString "is_active"), key := Value.str (Str.ofString "is_active") 322, val := Value.ref 106 }, { hash := PyData.keyHash P (Str.ofString "__bool__"), key := Value.str (Str.ofString "__bool__") 329, val := Value.ref 113 }, { hash := PyData.keyHash P (Str.ofString "done"), key := Value.str (Str.ofString "done") 343, val := Value.ref 120 }, { hash := PyData.keyHash P (Str.ofString "_find_cycle"), key := Value.str (Str.ofString "_find_cycle") 356, val := Value.ref 127 }, { hash := PyData.keyHash P (Str.ofString "static_order"), key := Value.str (Str.ofString "static_order") 363, val := Value.ref 134 }, { hash := PyData.keyHash P (Str.ofString "__static_attributes__"), key := Value.str (Str.ofString "__static_attributes__") 368, val := Value.ref 135 }, { hash := PyData.keyHash P (Str.ofString "__dict__"), key := Value.str (Str.ofString "__dict__") 370, val := Value.ref 138 }, { hash := PyData.keyHash P (Str.ofString "__weakref__"), key := Value.str (Str.ofString "__weakref__") 372, val := Value.ref 139 }, { hash := PyData.keyHash P (Str.ofString "__doc__"), key := Value.str (Str.ofString "__doc__") 373, val := Value.none }] 4 }
noncomputable def k137 (_ : Params) : Obj := { cls := Value.type "type", data := Data.cls { name := Str.ofString "TopologicalSorter", bases := [Value.type "object"], mro := [Value.ref 137, Value.type "object"], ns := 136, qualname := Str.ofString "TopologicalSorter" }, slots := #[none, none, some (Value.str (Str.ofString "TopologicalSorter") 257), some (Value.str (Str.ofString "TopologicalSorter") 265), some (Value.builtin "object.__new__"), some (Value.bool true)] }
noncomputable def k138 (_ : Params) : Obj := { cls := Value.type "getset_descriptor", data := Data.fields #[Value.str (Str.ofString "__dict__") 369, Value.ref 137, Value.builtin "function.__dict__", Value.builtin "function.__dict__#set"] }
noncomputable def k139 (_ : Params) : Obj := { cls := Value.type "getset_descriptor", data := Data.fields #[Value.str (Str.ofString "__weakref__") 371, Value.ref 137, Value.builtin "ExceptionGroup.__weakref__", Value.none] }
noncomputable def k154 (_ : Params) : Obj := { cls := Value.type "code", data := Data.fields #[Value.str (Str.ofString "__init__") 390, Value.str (Str.ofString "_netrclex.__init__") 391, Value.str (Str.ofString "/claim/cut.py") 392, Value.int 125 0, Value.int 2 0, Value.int 0 0, Value.int 0 0, Value.int 3 0, Value.ref 149, Value.bool true, Value.int 181 0, Value.ref 150, Value.none, Value.ref 151, Value.ref 152, Value.ref 153, Value.int 395 0, Value.int 125 0, Value.str (Str.ofString "/claim/cut.py") 396] }
noncomputable def f155 : FuncData := { name := Str.ofString "__init__", qualname := Str.ofString "_netrclex.__init__", params := fArgs (cst 8 0), body := FuncBody.stmts (fBody (cst 8 0)), scope := fScope (cst 8 0), globals := 3, closure := [], defaults := Value.none, kwdefaults := Value.none, pyModule := Value.str (Str.ofString "cpy313.netrc") 376, code := Value.ref 154 }
noncomputable def k155 (_ : Params) : Obj := { cls := Value.type "function", data := Data.func f155 }
noncomputable def k161 (_ : Params) : Obj := { cls := Value.type "code", data := Data.fields #[Value.str (Str.ofString "_read_char") 398, Value.str (Str.ofString "_netrclex._read_char") 399, Value.str (Str.ofString "/claim/cut.py") 400, Value.int 131 0, Value.int 1 0, Value.int 0 0, Value.int 0 0, Value.int 3 0, Value.ref 156, Value.bool true, Value.int 181 0, Value.ref 157, Value.none, Value.ref 158, Value.ref 159, Value.ref 160, Value.int 403 0, Value.int 131 0, Value.str (Str.ofString "/claim/cut.py") 404] }
noncomputable def f162 : FuncData := { name := Str.ofString "_read_char", qualname := Str.ofString "_netrclex._read_char", params := fArgs (cst 8 1), body := FuncBody.stmts (fBody (cst 8 1)), scope := fScope (cst 8 1), globals := 3, closure := [], defaults := Value.none, kwdefaults := Value.none, pyModule := Value.str (Str.ofString "cpy313.netrc") 376, code := Value.ref 161 }
noncomputable def k162 (_ : Params) : Obj := { cls := Value.type "function", data := Data.func f162 }
noncomputable def k168 (_ : Params) : Obj := { cls := Value.type "code", data := Data.fields #[Value.str (Str.ofString "get_token") 406, Value.str (Str.ofString "_netrclex.get_token") 407, Value.str (Str.ofString "/claim/cut.py") 408, Value.int 137 0, Value.int 1 0, Value.int 0 0, Value.int 0 0, Value.int 3 0, Value.ref 163, Value.bool true, Value.int 181 0, Value.ref 164, Value.none, Value.ref 165, Value.ref 166, Value.ref 167, Value.int 413 0, Value.int 137 0, Value.str (Str.ofString "/claim/cut.py") 414] }
noncomputable def f169 : FuncData := { name := Str.ofString "get_token", qualname := Str.ofString "_netrclex.get_token", params := fArgs (cst 8 2), body := FuncBody.stmts (fBody (cst 8 2)), scope := fScope (cst 8 2), globals := 3, closure := [], defaults := Value.none, kwdefaults := Value.none, pyModule := Value.str (Str.ofString "cpy313.netrc") 376, code := Value.ref 168 }
noncomputable def k169 (_ : Params) : Obj := { cls := Value.type "function", data := Data.func f169 }
noncomputable def k175 (_ : Params) : Obj := { cls := Value.type "code", data := Data.fields #[Value.str (Str.ofString "push_token") 416, Value.str (Str.ofString "_netrclex.push_token") 417, Value.str (Str.ofString "/claim/cut.py") 418, Value.int 164 0, Value.int 2 0, Value.int 0 0, Value.int 0 0, Value.int 3 0, Value.ref 170, Value.bool true, Value.int 181 0, Value.ref 171, Value.none, Value.ref 172, Value.ref 173, Value.ref 174, Value.int 421 0, Value.int 164 0, Value.str (Str.ofString "/claim/cut.py") 422] }
noncomputable def f176 : FuncData := { name := Str.ofString "push_token", qualname := Str.ofString "_netrclex.push_token", params := fArgs (cst 8 3), body := FuncBody.stmts (fBody (cst 8 3)), scope := fScope (cst 8 3), globals := 3, closure := [], defaults := Value.none, kwdefaults := Value.none, pyModule := Value.str (Str.ofString "cpy313.netrc") 376, code := Value.ref 175 }
noncomputable def k176 (_ : Params) : Obj := { cls := Value.type "function", data := Data.func f176 }
noncomputable def k178 (P : Params) : Obj := { cls := Value.type "dict", data := Data.dict #[{ hash := PyData.keyHash P (Str.ofString "__module__"), key := Value.str (Str.ofString "__module__") 385, val := Value.str (Str.ofString "cpy313.netrc") 376 }, { hash := PyData.keyHash P (Str.ofString "__firstlineno__"), key := Value.str (Str.ofString "__firstlineno__") 389, val := Value.int 123 388 }, { hash := PyData.keyHash P (Str.ofString "__init__"), key := Value.str (Str.ofString "__init__") 397, val := Value.ref 155 }, { hash := PyData.keyHash P (Str.ofString "_read_char"), key := Value.str (Str.ofString "_read_char") 405, val := Value.ref 162 }, { hash := PyData.keyHash P (Str.ofString "get_token"), key := Value.str (Str.ofString "get_token") 415, val := Value.ref 169 }, { hash := PyData.keyHash P (Str.ofString "push_token"), key := Value.str (Str.ofString "push_token") 423, val := Value.ref 176 }, { hash := PyData.keyHash P (Str.ofString "__static_attributes__"), key := Value.str (Str.ofString "__static_attributes__") 428, val := Value.ref 177 }, { hash := PyData.keyHash P (Str.ofString "__dict__"), key := Value.str (Str.ofString "__dict__") 430, val := Value.ref 180 }, { hash := PyData.keyHash P (Str.ofString "__weakref__"), key := Value.str (Str.ofString "__weakref__") 432, val := Value.ref 181 }, { hash := PyData.keyHash P (Str.ofString "__doc__"), key := Value.str (Str.ofString "__doc__") 433, val := Value.none }] 4 }
noncomputable def k179 (_ : Params) : Obj := { cls := Value.type "type", data := Data.cls { name := Str.ofString "_netrclex", bases := [Value.type "object"], mro := [Value.ref 179, Value.type "object"], ns := 178, qualname := Str.ofString "_netrclex" }, slots := #[none, none, some (Value.str (Str.ofString "_netrclex") 378), some (Value.str (Str.ofString "_netrclex") 386), some (Value.builtin "object.__new__"), some (Value.bool true)] }
noncomputable def k180 (_ : Params) : Obj := { cls := Value.type "getset_descriptor", data := Data.fields #[Value.str (Str.ofString "__dict__") 429, Value.ref 179, Value.builtin "function.__dict__", Value.builtin "function.__dict__#set"] }
noncomputable def k181 (_ : Params) : Obj := { cls := Value.type "getset_descriptor", data := Data.fields #[Value.str (Str.ofString "__weakref__") 431, Value.ref 179, Value.builtin "ExceptionGroup.__weakref__", Value.none] }
noncomputable def k189 (_ : Params) : Obj := { cls := Value.type "code", data := Data.fields #[Value.str (Str.ofString "S_IMODE") 438, Value.str (Str.ofString "S_IMODE") 439, Value.str (Str.ofString "/claim/cut.py") 440, Value.int 167 0, Value.int 1 0, Value.int 0 0, Value.int 0 0, Value.int 3 0, Value.ref 184, Value.bool true, Value.int 181 0, Value.ref 185, Value.none, Value.ref 186, Value.ref 187, Value.ref 188, Value.int 442 0, Value.int 167 0, Value.str (Str.ofString "/claim/cut.py") 443] }
noncomputable def f190 : FuncData := { name := Str.ofString "S_IMODE", qualname := Str.ofString "S_IMODE", params := fArgs st10, body := FuncBody.stmts (fBody st10), scope := fScope st10, globals := 3, closure := [], defaults := Value.none, kwdefaults := Value.none, pyModule := Value.str (Str.ofString "cpy313.stat") 436, code := Value.ref 189 }
noncomputable def k190 (_ : Params) : Obj := { cls := Value.type "function", data := Data.func f190 }
noncomputable def k196 (_ : Params) : Obj := { cls := Value.type "code", data := Data.fields #[Value.str (Str.ofString "S_IFMT") 445, Value.str (Str.ofString "S_IFMT") 446, Value.str (Str.ofString "/claim/cut.py") 447, Value.int 169 0, Value.int 1 0, Value.int 0 0, Value.int 0 0, Value.int 3 0, Value.ref 191, Value.bool true, Value.int 181 0, Value.ref 192, Value.none, Value.ref 193, Value.ref 194, Value.ref 195, Value.int 449 0, Value.int 169 0, Value.str (Str.ofString "/claim/cut.py") 450] }
noncomputable def f197 : FuncData := { name := Str.ofString "S_IFMT", qualname := Str.ofString "S_IFMT", params := fArgs st11, body := FuncBody.stmts (fBody st11), scope := fScope st11, globals := 3, closure := [], defaults := Value.none, kwdefaults := Value.none, pyModule := Value.str (Str.ofString "cpy313.stat") 436, code := Value.ref 196 }
noncomputable def k197 (_ : Params) : Obj := { cls := Value.type "function", data := Data.func f197 }
noncomputable def k203 (_ : Params) : Obj := { cls := Value.type "code", data := Data.fields #[Value.str (Str.ofString "S_ISDIR") 466, Value.str (Str.ofString "S_ISDIR") 467, Value.str (Str.ofString "/claim/cut.py") 468, Value.int 178 0, Value.int 1 0, Value.int 0 0, Value.int 0 0, Value.int 3 0, Value.ref 198, Value.bool true, Value.int 181 0, Value.ref 199, Value.none, Value.ref 200, Value.ref 201, Value.ref 202, Value.int 470 0, Value.int 178 0, Value.str (Str.ofString "/claim/cut.py") 471] }
noncomputable def f204 : FuncData := { name := Str.ofString "S_ISDIR", qualname := Str.ofString "S_ISDIR", params := fArgs st19, body := FuncBody.stmts (fBody st19), scope := fScope st19, globals := 3, closure := [], defaults := Value.none, kwdefaults := Value.none, pyModule := Value.str (Str.ofString "cpy313.stat") 436, code := Value.ref 203 }
noncomputable def k204 (_ : Params) : Obj := { cls := Value.type "function", data := Data.func f204 }
noncomputable def k205 (_ : Params) : Obj := { cls := Value.type "tuple", data := Data.seq #[Value.int 40960 462, Value.str (Str.ofString "l") 497] }
noncomputable def k206 (_ : Params) : Obj := { cls := Value.type "tuple", data := Data.seq #[Value.int 49152 464, Value.str (Str.ofString "s") 498] }
noncomputable def k207 (_ : Params) : Obj := { cls := Value.type "tuple", data := Data.seq #[Value.int 32768 458, Value.str (Str.ofString "-") 499] }
noncomputable def k208 (_ : Params) : Obj := { cls := Value.type "tuple", data := Data.seq #[Value.int 24576 456, Value.str (Str.ofString "b") 500] }
noncomputable def k209 (_ : Params) : Obj := { cls := Value.type "tuple", data := Data.seq #[Value.int 16384 452, Value.str (Str.ofString "d") 501] }
noncomputable def k210 (_ : Params) : Obj := { cls := Value.type "tuple", data := Data.seq #[Value.int 8192 454, Value.str (Str.ofString "c") 502] }
noncomputable def k211 (_ : Params) : Obj := { cls := Value.type "tuple", data := Data.seq #[Value.int 4096 460, Value.str (Str.ofString "p") 503] }
noncomputable def k212 (_ : Params) : Obj := { cls := Value.type "tuple", data := Data.seq #[Value.ref 205, Value.ref 206, Value.ref 207, Value.ref 208, Value.ref 209, Value.ref 210, Value.ref 211] }
noncomputable def k213 (_ : Params) : Obj := { cls := Value.type "tuple", data := Data.seq #[Value.int 256 479, Value.str (Str.ofString "r") 504] }
noncomputable def k214 (_ : Params) : Obj := { cls := Value.type "tuple", data := Data.seq #[Value.ref 213] }
noncomputable def k215 (_ : Params) : Obj := { cls := Value.type "tuple", data := Data.seq #[Value.int 128 481, Value.str (Str.ofString "w") 505] }
noncomputable def k216 (_ : Params) : Obj := { cls := Value.type "tuple", data := Data.seq #[Value.ref 215] }
noncomputable def k217 (_ : Params) : Obj := { cls := Value.type "tuple", data := Data.seq #[Value.int 2112 506, Value.str (Str.ofString "s") 507] }
noncomputable def k218 (_ : Params) : Obj := { cls := Value.type "tuple", data := Data.seq #[Value.int 2048 473, Value.str (Str.ofString "S") 508] }
noncomputable def k219 (_ : Params) : Obj := { cls := Value.type "tuple", data := Data.seq #[Value.int 64 483, Value.str (Str.ofString "x") 509] }
noncomputable def k220 (_ : Params) : Obj := { cls := Value.type "tuple", data := Data.seq #[Value.ref 217, Value.ref 218, Value.ref 219] }
noncomputable def k221 (_ : Params) : Obj := { cls := Value.type "tuple", data := Data.seq #[Value.int 32 485, Value.str (Str.ofString "r") 510] }
noncomputable def k222 (_ : Params) : Obj := { cls := Value.type "tuple", data := Data.seq #[Value.ref 221] }
noncomputable def k223 (_ : Params) : Obj := { cls := Value.type "tuple", data := Data.seq #[Value.int 16 487, Value.str (Str.ofString "w") 511] }
noncomputable def k224 (_ : Params) : Obj := { cls := Value.type "tuple", data := Data.seq #[Value.ref 223] }
noncomputable def k225 (_ : Params) : Obj := { cls := Value.type "tuple", data := Data.seq #[Value.int 1032 512, Value.str (Str.ofString "s") 513] }
noncomputable def k226 (_ : Params) : Obj := { cls := Value.type "tuple", data := Data.seq #[Value.int 1024 475, Value.str (Str.ofString "S") 514] }
noncomputable def k227 (_ : Params) : Obj := { cls := Value.type "tuple", data := Data.seq #[Value.int 8 489, Value.str (Str.ofString "x") 515] }
noncomputable def k228 (_ : Params) : Obj := { cls := Value.type "tuple", data := Data.seq #[Value.ref 225, Value.ref 226, Value.ref 227] }
noncomputable def k229 (_ : Params) : Obj := { cls := Value.type "tuple", data := Data.seq #[Value.int 4 491, Value.str (Str.ofString "r") 516] }
noncomputable def k230 (_ : Params) : Obj := { cls := Value.type "tuple", data := Data.seq #[Value.ref 229] }
noncomputable def k231 (_ : Params) : Obj := { cls := Value.type "tuple", data := Data.seq #[Value.int 2 493, Value.str (Str.ofString "w") 517] }
noncomputable def k232 (_ : Params) : Obj := { cls := Value.type "tuple", data := Data.seq #[Value.ref 231] }
noncomputable def k233 (_ : Params) : Obj := { cls := Value.type "tuple", data := Data.seq #[Value.int 513 518, Value.str (Str.ofString "t") 519] }
noncomputable def k234 (_ : Params) : Obj := { cls := Value.type "tuple", data := Data.seq #[Value.int 512 477, Value.str (Str.ofString "T") 520] }
noncomputable def k235 (_ : Params) : Obj := { cls := Value.type "tuple", data := Data.seq #[Value.int 1 495, Value.str (Str.ofString "x") 521] }
noncomputable def k236 (_ : Params) : Obj := { cls := Value.type "tuple", data := Data.seq #[Value.ref 233, Value.ref 234, Value.ref 235] }
noncomputable def k237 (_ : Params) : Obj := { cls := Value.type "tuple", data := Data.seq #[Value.ref 212, Value.ref 214, Value.ref 216, Value.ref 220, Value.ref 222, Value.ref 224, Value.ref 228, Value.ref 230, Value.ref 232, Value.ref 236] }
noncomputable def k243 (_ : Params) : Obj := { cls := Value.type "code", data := Data.fields #[Value.str (Str.ofString "filemode") 523, Value.str (Str.ofString "filemode") 524, Value.str (Str.ofString "/claim/cut.py") 525, Value.int 193 0, Value.int 1 0, Value.int 0 0, Value.int 0 0, Value.int 3 0, Value.ref 238, Value.bool true, Value.int 181 0, Value.ref 239, Value.none, Value.ref 240, Value.ref 241, Value.ref 242, Value.int 532 0, Value.int 193 0, Value.str (Str.ofString "/claim/cut.py") 533] }
noncomputable def f244 : FuncData := { name := Str.ofString "filemode", qualname := Str.ofString "filemode", params := fArgs st33, body := FuncBody.stmts (fBody st33), scope := fScope st33, globals := 3, closure := [], defaults := Value.none, kwdefaults := Value.none, pyModule := Value.str (Str.ofString "cpy313.stat") 436, code := Value.ref 243 }
noncomputable def k244 (_ : Params) : Obj := { cls := Value.type "function", data := Data.func f244 }
noncomputable def k250 (_ : Params) : Obj := { cls := Value.type "code", data := Data.fields #[Value.str (Str.ofString "_law_files") 537, Value.str (Str.ofString "_law_files") 538, Value.str (Str.ofString "/claim/cut.py") 539, Value.int 211 0, Value.int 1 0, Value.int 0 0, Value.int 0 0, Value.int 3 0, Value.ref 245, Value.bool true, Value.int 181 0, Value.ref 246, Value.none, Value.ref 247, Value.ref 248, Value.ref 249, Value.int 549 0, Value.int 211 0, Value.str (Str.ofString "/claim/cut.py") 550] }
noncomputable def f251 : FuncData := { name := Str.ofString "_law_files", qualname := Str.ofString "_law_files", params := fArgs st35, body := FuncBody.stmts (fBody st35), scope := fScope st35, globals := 3, closure := [], defaults := Value.none, kwdefaults := Value.none, pyModule := Value.str (Str.ofString "law_oy0346_01") 535, code := Value.ref 250 }
noncomputable def k251 (_ : Params) : Obj := { cls := Value.type "function", data := Data.func f251 }
noncomputable def k257 (_ : Params) : Obj := { cls := Value.type "code", data := Data.fields #[Value.str (Str.ofString "_law_written") 552, Value.str (Str.ofString "_law_written") 553, Value.str (Str.ofString "/claim/cut.py") 554, Value.int 229 0, Value.int 2 0, Value.int 0 0, Value.int 0 0, Value.int 3 0, Value.ref 252, Value.bool true, Value.int 181 0, Value.ref 253, Value.none, Value.ref 254, Value.ref 255, Value.ref 256, Value.int 559 0, Value.int 229 0, Value.str (Str.ofString "/claim/cut.py") 560] }
noncomputable def f258 : FuncData := { name := Str.ofString "_law_written", qualname := Str.ofString "_law_written", params := fArgs st36, body := FuncBody.stmts (fBody st36), scope := fScope st36, globals := 3, closure := [], defaults := Value.none, kwdefaults := Value.none, pyModule := Value.str (Str.ofString "law_oy0346_01") 535, code := Value.ref 257 }
noncomputable def k258 (_ : Params) : Obj := { cls := Value.type "function", data := Data.func f258 }
noncomputable def k264 (_ : Params) : Obj := { cls := Value.type "code", data := Data.fields #[Value.str (Str.ofString "_law_lexer") 562, Value.str (Str.ofString "_law_lexer") 563, Value.str (Str.ofString "/claim/cut.py") 564, Value.int 235 0, Value.int 2 0, Value.int 0 0, Value.int 0 0, Value.int 3 0, Value.ref 259, Value.bool true, Value.int 181 0, Value.ref 260, Value.none, Value.ref 261, Value.ref 262, Value.ref 263, Value.int 571 0, Value.int 235 0, Value.str (Str.ofString "/claim/cut.py") 572] }
noncomputable def f265 : FuncData := { name := Str.ofString "_law_lexer", qualname := Str.ofString "_law_lexer", params := fArgs st37, body := FuncBody.stmts (fBody st37), scope := fScope st37, globals := 3, closure := [], defaults := Value.none, kwdefaults := Value.none, pyModule := Value.str (Str.ofString "law_oy0346_01") 535, code := Value.ref 264 }
noncomputable def k265 (_ : Params) : Obj := { cls := Value.type "function", data := Data.func f265 }
noncomputable def k269 (_ : Params) : Obj := { cls := Value.type "code", data := Data.fields #[Value.str (Str.ofString "_law_seen") 574, Value.str (Str.ofString "_law_seen") 575, Value.str (Str.ofString "/claim/cut.py") 576, Value.int 244 0, Value.int 3 0, Value.int 0 0, Value.int 0 0, Value.int 3 0, Value.ref 266, Value.bool true, Value.int 181 0, Value.ref 267, Value.none, Value.none, Value.none, Value.ref 268, Value.int 577 0, Value.int 244 0, Value.str (Str.ofString "/claim/cut.py") 578] }
noncomputable def f270 : FuncData := { name := Str.ofString "_law_seen", qualname := Str.ofString "_law_seen", params := fArgs st38, body := FuncBody.stmts (fBody st38), scope := fScope st38, globals := 3, closure := [], defaults := Value.none, kwdefaults := Value.none, pyModule := Value.str (Str.ofString "law_oy0346_01") 535, code := Value.ref 269 }
noncomputable def k270 (_ : Params) : Obj := { cls := Value.type "function", data := Data.func f270 }
noncomputable def k274 (_ : Params) : Obj := { cls := Value.type "code", data := Data.fields #[Value.str (Str.ofString "_law_levels") 580, Value.str (Str.ofString "_law_levels") 581, Value.str (Str.ofString "/claim/cut.py") 582, Value.int 252 0, Value.int 2 0, Value.int 0 0, Value.int 0 0, Value.int 3 0, Value.ref 271, Value.bool true, Value.int 181 0, Value.ref 272, Value.none, Value.none, Value.none, Value.ref 273, Value.int 583 0, Value.int 252 0, Value.str (Str.ofString "/claim/cut.py") 584] }
noncomputable def f275 : FuncData := { name := Str.ofString "_law_levels", qualname := Str.ofString "_law_levels", params := fArgs st39, body := FuncBody.stmts (fBody st39), scope := fScope st39, globals := 3, closure := [], defaults := Value.none, kwdefaults := Value.none, pyModule := Value.str (Str.ofString "law_oy0346_01") 535, code := Value.ref 274 }
noncomputable def k275 (_ : Params) : Obj := { cls := Value.type "function", data := Data.func f275 }
noncomputable def k281 (_ : Params) : Obj := { cls := Value.type "code", data := Data.fields #[Value.str (Str.ofString "_law_last") 586, Value.str (Str.ofString "_law_last") 587, Value.str (Str.ofString "/claim/cut.py") 588, Value.int 269 0, Value.int 1 0, Value.int 0 0, Value.int 0 0, Value.int 3 0, Value.ref 276, Value.bool true, Value.int 181 0, Value.ref 277, Value.none, Value.ref 278, Value.ref 279, Value.ref 280, Value.int 595 0, Value.int 269 0, Value.str (Str.ofString "/claim/cut.py") 596] }
noncomputable def f282 : FuncData := { name := Str.ofString "_law_last", qualname := Str.ofString "_law_last", params := fArgs st40, body := FuncBody.stmts (fBody st40), scope := fScope st40, globals := 3, closure := [], defaults := Value.none, kwdefaults := Value.none, pyModule := Value.str (Str.ofString "law_oy0346_01") 535, code := Value.ref 281 }
noncomputable def k282 (_ : Params) : Obj := { cls := Value.type "function", data := Data.func f282 }
noncomputable def k286 (_ : Params) : Obj := { cls := Value.type "code", data := Data.fields #[Value.str (Str.ofString "_law_shows") 598, Value.str (Str.ofString "_law_shows") 599, Value.str (Str.ofString "/claim/cut.py") 600, Value.int 280 0, Value.int 3 0, Value.int 0 0, Value.int 0 0, Value.int 3 0, Value.ref 283, Value.bool true, Value.int 181 0, Value.ref 284, Value.none, Value.none, Value.none, Value.ref 285, Value.int 601 0, Value.int 280 0, Value.str (Str.ofString "/claim/cut.py") 602] }
noncomputable def f287 : FuncData := { name := Str.ofString "_law_shows", qualname := Str.ofString "_law_shows", params := fArgs st41, body := FuncBody.stmts (fBody st41), scope := fScope st41, globals := 3, closure := [], defaults := Value.none, kwdefaults := Value.none, pyModule := Value.str (Str.ofString "law_oy0346_01") 535, code := Value.ref 286 }
noncomputable def k287 (_ : Params) : Obj := { cls := Value.type "function", data := Data.func f287 }
noncomputable def k293 (_ : Params) : Obj := { cls := Value.type "code", data := Data.fields #[Value.str (Str.ofString "_law_shut") 604, Value.str (Str.ofString "_law_shut") 605, Value.str (Str.ofString "/claim/cut.py") 606, Value.int 286 0, Value.int 2 0, Value.int 0 0, Value.int 0 0, Value.int 3 0, Value.ref 288, Value.bool true, Value.int 181 0, Value.ref 289, Value.none, Value.ref 290, Value.ref 291, Value.ref 292, Value.int 609 0, Value.int 286 0, Value.str (Str.ofString "/claim/cut.py") 610] }
noncomputable def f294 : FuncData := { name := Str.ofString "_law_shut", qualname := Str.ofString "_law_shut", params := fArgs st42, body := FuncBody.stmts (fBody st42), scope := fScope st42, globals := 3, closure := [], defaults := Value.none, kwdefaults := Value.none, pyModule := Value.str (Str.ofString "law_oy0346_01") 535, code := Value.ref 293 }
noncomputable def k294 (_ : Params) : Obj := { cls := Value.type "function", data := Data.func f294 }
noncomputable def k298 (_ : Params) : Obj := { cls := Value.type "code", data := Data.fields #[Value.str (Str.ofString "_law_handed") 612, Value.str (Str.ofString "_law_handed") 613, Value.str (Str.ofString "/claim/cut.py") 614, Value.int 292 0, Value.int 3 0, Value.int 0 0, Value.int 0 0, Value.int 3 0, Value.ref 295, Value.bool true, Value.int 181 0, Value.ref 296, Value.none, Value.none, Value.none, Value.ref 297, Value.int 615 0, Value.int 292 0, Value.str (Str.ofString "/claim/cut.py") 616] }
noncomputable def f299 : FuncData := { name := Str.ofString "_law_handed", qualname := Str.ofString "_law_handed", params := fArgs st43, body := FuncBody.stmts (fBody st43), scope := fScope st43, globals := 3, closure := [], defaults := Value.none, kwdefaults := Value.none, pyModule := Value.str (Str.ofString "law_oy0346_01") 535, code := Value.ref 298 }
noncomputable def k299 (_ : Params) : Obj := { cls := Value.type "function", data := Data.func f299 }
noncomputable def k303 (_ : Params) : Obj := { cls := Value.type "code", data := Data.fields #[Value.str (Str.ofString "law") 618, Value.str (Str.ofString "law") 619, Value.str (Str.ofString "/claim/cut.py") 620, Value.int 313 0, Value.int 1 0, Value.int 0 0, Value.int 0 0, Value.int 3 0, Value.ref 300, Value.bool true, Value.int 181 0, Value.ref 301, Value.none, Value.none, Value.none, Value.ref 302, Value.int 621 0, Value.int 313 0, Value.str (Str.ofString "/claim/cut.py") 622] }
noncomputable def f304 : FuncData := { name := Str.ofString "law", qualname := Str.ofString "law", params := fArgs st44, body := FuncBody.stmts (fBody st44), scope := fScope st44, globals := 3, closure := [], defaults := Value.none, kwdefaults := Value.none, pyModule := Value.str (Str.ofString "law_oy0346_01") 535, code := Value.ref 303 }
noncomputable def k304 (_ : Params) : Obj := { cls := Value.type "function", data := Data.func f304 }
noncomputable def K0 (P : Params) : Frag := [(3, k3 P), (35, k35 P), (36, k36 P), (39, k39 P), (40, k40 P), (41, k41 P), (42, k42 P), (43, k43 P), (66, k66 P), (72, k72 P), (73, k73 P), (79, k79 P), (80, k80 P)]
noncomputable def K1 (P : Params) : Frag := [(86, k86 P), (87, k87 P), (91, k91 P), (92, k92 P), (98, k98 P), (99, k99 P), (105, k105 P), (106, k106 P), (119, k119 P), (120, k120 P), (126, k126 P), (127, k127 P), (136, k136 P)]
noncomputable def K2 (P : Params) : Frag := [(137, k137 P), (138, k138 P), (139, k139 P), (154, k154 P), (155, k155 P), (161, k161 P), (162, k162 P), (168, k168 P), (169, k169 P), (175, k175 P), (176, k176 P), (178, k178 P), (179, k179 P)]
noncomputable def K3 (P : Params) : Frag := [(180, k180 P), (181, k181 P), (189, k189 P), (190, k190 P), (196, k196 P), (197, k197 P), (203, k203 P), (204, k204 P), (205, k205 P), (206, k206 P), (207, k207 P), (208, k208 P), (209, k209 P)]
noncomputable def K4 (P : Params) : Frag := [(210, k210 P), (211, k211 P), (212, k212 P), (213, k213 P), (214, k214 P), (215, k215 P), (216, k216 P), (217, k217 P), (218, k218 P), (219, k219 P), (220, k220 P), (221, k221 P), (222, k222 P)]
noncomputable def K5 (P : Params) : Frag := [(223, k223 P), (224, k224 P), (225, k225 P), (226, k226 P), (227, k227 P), (228, k228 P), (229, k229 P), (230, k230 P), (231, k231 P), (232, k232 P), (233, k233 P), (234, k234 P), (235, k235 P)]
noncomputable def K6 (P : Params) : Frag := [(236, k236 P), (237, k237 P), (243, k243 P), (244, k244 P), (250, k250 P), (251, k251 P), (257, k257 P), (258, k258 P), (264, k264 P), (265, k265 P), (269, k269 P), (270, k270 P), (274, k274 P)]
noncomputable def K7 (P : Params) : Frag := [(275, k275 P), (281, k281 P), (282, k282 P), (286, k286 P), (287, k287 P), (293, k293 P), (294, k294 P), (298, k298 P), (299, k299 P), (303, k303 P), (304, k304 P)]
noncomputable def K (P : Params) : Frag := K0 P ++ (K1 P ++ (K2 P ++ (K3 P ++ (K4 P ++ (K5 P ++ (K6 P ++ (K7 P)))))))
noncomputable def kAs : List Addr := [3, 35, 36, 39, 40, 41, 42, 43, 66, 72, 73, 79, 80, 86, 87, 91, 92, 98, 99, 105, 106, 119, 120, 126, 127, 136, 137, 138, 139, 154, 155, 161, 162, 168, 169, 175, 176, 178, 179, 180, 181, 189, 190, 196, 197, 203, 204, 205, 206, 207, 208, 209, 210, 211, 212, 213, 214, 215, 216, 217, 218, 219, 220, 221, 222, 223, 224, 225, 226, 227, 228, 229, 230, 231, 232, 233, 234, 235, 236, 237, 243, 244, 250, 251, 257, 258, 264, 265, 269, 270, 274, 275, 281, 282, 286, 287, 293, 294, 298, 299, 303, 304]
theorem kAs_eq (P : Params) : kAs = (K P).map (·.1) := by kernel_rfl
noncomputable def goT (stp : (Code → Sem Fin) → Program → World → SharedT → Thread → Option (SharedT × Thread)) (den : Code → Sem Fin) (ok : Thread → Bool) (p : Program) (w : World) : Nat → SharedT → Thread → Option SharedT
  | 0, _, _ => none
  | n + 1, s, t => match through t with
    | true => some s
    | false => match ok t with
      | false => none
      | true => match stp den p w s t with
        | some (s', t') => goT stp den ok p w n s' t'
        | none => none
theorem goT_spec {tb : String → Option Builtin} {p : Program} {w : World} {n₀ : Nat} {ann : Option Value} : ∀ (n : Nat) (s : SharedT) (t : Thread) (s' : SharedT), goT stepT (denote tb) (stepOk n₀ ann) p w n s t = some s' → topRun tb p w n₀ ann n s.abs t = some s'.abs
  | 0, _, _, _, h => by cases h
  | n + 1, s, t, s', h => by
    unfold goT at h
    unfold topRun
    cases he : through t with
    | true => rw [he] at h; cases h; rfl
    | false =>
      rw [he] at h
      cases hk : stepOk n₀ ann t with
      | false => rw [hk] at h; cases h
      | true =>
        rw [hk] at h
        cases hs : stepT (denote tb) p w s t with
        | none => rw [hs] at h; cases h
        | some r => obtain ⟨s₂, t₂⟩ := r; rw [hs] at h; rw [stepT_spec hs]; exact goT_spec n s₂ t₂ s' h
noncomputable def treeOf (os : List Obj) : BT := (os.zipIdx).foldl (fun t x => t.ins x.2 x.1) .nil
noncomputable def bootT (w : World) (os : OsState) : SharedT := ⟨treeOf (boot_heap w.params).objs.toList, (boot_heap w.params).objs.size, (boot_heap w.params).life, #[], boot_drawn, boot_toks, os⟩
theorem boot_abs (w : World) (os : OsState) : (bootT w os).abs = ⟨boot_heap w.params, #[], boot_drawn, boot_toks, os⟩ := by kernel_rfl
noncomputable def vw : Program := { pw with main := { pw.main with body := [st0, st2, st3, st4, st5, st6, st8, st10, st11, st12,
          st13, st14, st15, st16, st17, st18, st19, st20, st21, st22, st23, st24, st25, st26, st27, st28, st29, st30, st31, st32,
          st33, st35, st36, st37, st38, st39, st40, st41, st42, st43, st44] } }
noncomputable def lo : List Str := [Str.ofString "_NodeInfo", Str.ofString "_filemode_table"]
noncomputable def hk : Hook where
  α := (kmHook K kAs kAs_eq [260]).α × Bool
  obs := fun s => ((kmHook K kAs kAs_eq [260]).obs s, (s.heap.get? sysModules).isSome)
  val := fun w => ((kmHook K kAs kAs_eq [260]).val w, true)
  says := fun w h => (kmHook K kAs kAs_eq [260]).says w h ∧ (h.get? sysModules).isSome = true
  of := fun w s e => ⟨(kmHook K kAs kAs_eq [260]).of w s (Prod.mk.inj e).1, (Prod.mk.inj e).2⟩
  keeps := fun w h h' x k => ⟨(kmHook K kAs kAs_eq [260]).keeps w h h' x.1 k, let ⟨o, e⟩ := Option.isSome_iff_exists.mp x.2; Option.isSome_iff_exists.mpr ⟨o, k _ _ e⟩⟩
noncomputable def forceL {β : Type} : List Obj → (List Obj → β) → β
  | [], k => k []
  | o :: r, k => match o with
    | ⟨c, d, dt, sl⟩ => forceL r fun l => k (⟨c, d, dt, sl⟩ :: l)
theorem forceL_eq {β : Type} : ∀ (l : List Obj) (k : List Obj → β), forceL l k = k l
  | [], _ => rfl
  | ⟨_, _, _, _⟩ :: r, _ => forceL_eq r _
noncomputable def ran {β : Type} (w : World) (os : OsState) (f : Heap → SharedT → β) : Option β :=
  (goT Fast.tw10156331382660048174 (Fast.tw11892475500146522536 Fast.tw14364793385576792824) (Fast.tw6613529449190102663 (boot_heap w.params).objs.size ((boot_heap w.params).nsMap mainGlobals "__annotations__")) pw w 4410 (bootT w os) (topStub pw)).map fun s => forceL (s.tree.list s.n) fun l => f ⟨l.toArray, s.life⟩ s
noncomputable def seenT (h : Heap) (s : SharedT) := Fast.tw4187177175401517315 vw lo (importedModules pw.main.body) (fun s => xlAt vw [] s && recOk [] s) true ⟨h, s.gens, s.drawn, s.toks, s.os⟩
noncomputable abbrev c2 {α β γ : Type} (x : α × β × γ) : α × β := match x with | (a, b, _) => (a, b)
noncomputable abbrev c3 {α β γ δ : Type} (x : α × β × γ × δ) : γ := match x with | (_, _, c, _) => c
noncomputable abbrev c5 {α β γ δ ε ζ : Type} (x : α × β × γ × δ × ε × ζ) : δ × ε := match x with | (_, _, _, d, e, _) => (d, e)
noncomputable abbrev c6 {α β γ δ ε ζ : Type} (x : α × β × γ × δ × ε × ζ) : ζ := match x with | (_, _, _, _, _, f) => f
theorem c_all {α β γ δ ε ζ : Type} {x y : α × β × γ × δ × ε × ζ} (h2 : c2 x = c2 y) (h3 : c3 x = c3 y) (h5 : c5 x = c5 y) (h6 : c6 x = c6 y) : x = y := by
  show (x.1, x.2.1, x.2.2.1, x.2.2.2.1, x.2.2.2.2.1, x.2.2.2.2.2) = (y.1, y.2.1, y.2.2.1, y.2.2.2.1, y.2.2.2.2.1, y.2.2.2.2.2)
  have e1 : (x.1, x.2.1) = (y.1, y.2.1) := h2
  have e3 : x.2.2.1 = y.2.2.1 := h3
  have e5 : (x.2.2.2.1, x.2.2.2.2.1) = (y.2.2.2.1, y.2.2.2.2.1) := h5
  have e6 : x.2.2.2.2.2 = y.2.2.2.2.2 := h6
  rw [(Prod.mk.inj e1).1, (Prod.mk.inj e1).2, e3, (Prod.mk.inj e5).1, (Prod.mk.inj e5).2, e6]
theorem ran1 : ∀ w : World, (fun os => ran w os fun h s => ((staticsOk (importedModules pw.main.body) (boot_heap w.params) h && namesBound pw h && gensDone ⟨h, s.gens, s.drawn, s.toks, s.os⟩ && laidKept (boot_heap w.params) h), c2 (seenT h s))) = fun _ => some (true, c2 (openGood vw lo)) := fun w => by kernel_rfl
theorem ran2 : ∀ w : World, (fun os => ran w os fun h s => c3 (seenT h s)) = fun _ => some (c3 (openGood vw lo)) := fun w => by kernel_rfl
theorem ran3 : ∀ w : World, (fun os => ran w os fun h s => (c5 (seenT h s), hk.obs ⟨h, s.gens, s.drawn, s.toks, s.os⟩)) = fun _ => some (c5 (openGood vw lo), hk.val w) := fun w => by kernel_rfl
theorem ran4 : ∀ w : World, (fun os => ran w os fun h s => c6 (seenT h s)) = fun _ => some (c6 (openGood vw lo)) := fun w => by kernel_rfl
theorem ran_at {β : Type} {w : World} {os : OsState} {f : Heap → SharedT → β} {b : β} (h : ran w os f = some b) : ∃ s, topRun treeTable pw w (boot_heap w.params).objs.size ((boot_heap w.params).nsMap mainGlobals "__annotations__") 4410 ⟨boot_heap w.params, #[], boot_drawn, boot_toks, os⟩ (topStub pw) = some s.abs ∧ f s.abs.heap s = b := by
  obtain ⟨s, e, e'⟩ := Option.map_eq_some_iff.mp h
  rw [forceL_eq] at e'
  rw [← Fast.te10156331382660048174, ← Fast.te11892475500146522536, ← Fast.te14364793385576792824, ← Fast.te6613529449190102663] at e
  exact ⟨s, boot_abs w os ▸ goT_spec _ _ _ _ e, e'⟩
theorem left_of {p q : Program} {loose : List Str} {Xt : Shared → Bool} {α : Type} {Yf : Shared → α} {Ya : World → α} {N : Nat} {H₀ : Params → Heap} {gs₀ : Array GenState} {d₀ : Drawn} {k₀ : Nat}
    (open_ : ∀ w : World, (fencedOpening treeTable p w N).map (fun s => (s.heap, s.gens, s.drawn, s.toks)) = some (H₀ w.params, gs₀, d₀, k₀))
    (size : ∀ w : World, ((H₀ w.params).isNs mainGlobals && gs₀.size == 0) = true)
    (fin : ∀ (w : World) (os : OsState), ∃ s, topRun treeTable p w (H₀ w.params).objs.size ((H₀ w.params).nsMap mainGlobals "__annotations__") N ⟨H₀ w.params, gs₀, d₀, k₀, os⟩ (topStub p) = some s ∧
      (staticsOk (importedModules p.main.body) (H₀ w.params) s.heap && namesBound p s.heap && gensDone s && laidKept (H₀ w.params) s.heap) = true ∧ openSeen q loose (importedModules p.main.body) Xt true s = openGood q loose ∧ Yf s = Ya w) : LeftO p q loose Xt Yf Ya N := fun w => by
  obtain ⟨⟨h, gs, d, k, os⟩, e, e'⟩ := Option.map_eq_some_iff.mp (open_ w)
  obtain ⟨rfl, rfl, rfl, rfl⟩ : h = H₀ w.params ∧ gs = gs₀ ∧ d = d₀ ∧ k = k₀ := by simpa using e'
  obtain ⟨s, r, l1, l2, l3⟩ := fin w os
  have t : topFrom treeTable p w N ⟨H₀ w.params, gs, d, k, os⟩ = some s := by
    unfold topFrom
    dsimp only
    rw [size w, r]
    show (match staticsOk _ _ s.heap && namesBound p s.heap && gensDone s && laidKept _ s.heap with | true => _ | false => _) = _
    rw [l1]
  unfold openEnds
  rw [e]
  show (topFrom treeTable p w N _).map _ = _
  rw [t]
  exact congrArg some (Prod.ext l2 l3)
theorem seenT_eq (s : SharedT) : seenT s.abs.heap s = openSeen vw lo (importedModules pw.main.body) (fun s => xlAt vw [] s && recOk [] s) true s.abs := by
  rw [Fast.te4187177175401517315]
  rfl
theorem fin_ok (w : World) (os : OsState) : ∃ s, topRun treeTable pw w (boot_heap w.params).objs.size ((boot_heap w.params).nsMap mainGlobals "__annotations__") 4410 ⟨boot_heap w.params, #[], boot_drawn, boot_toks, os⟩ (topStub pw) = some s ∧
      (staticsOk (importedModules pw.main.body) (boot_heap w.params) s.heap && namesBound pw s.heap && gensDone s && laidKept (boot_heap w.params) s.heap) = true ∧ openSeen vw lo (importedModules pw.main.body) (fun s => xlAt vw [] s && recOk [] s) true s = openGood vw lo ∧ hk.obs s = hk.val w := by
  obtain ⟨s, g, a1⟩ := ran_at (congrFun (ran1 w) os)
  obtain ⟨s2, g2, a2⟩ := ran_at (congrFun (ran2 w) os)
  obtain ⟨s3, g3, a3⟩ := ran_at (congrFun (ran3 w) os)
  obtain ⟨s4, g4, a4⟩ := ran_at (congrFun (ran4 w) os)
  have e2 := Option.some.inj (g2.symm.trans g)
  have e3 := Option.some.inj (g3.symm.trans g)
  have e4 := Option.some.inj (g4.symm.trans g)
  rw [seenT_eq] at a1 a2 a3 a4
  rw [e2] at a2
  rw [e4] at a4
  have b1 := Prod.mk.inj a1
  have b3 := Prod.mk.inj a3
  have b5 : hk.obs s3.abs = hk.val w := b3.2
  have b3 := b3.1
  rw [e3] at b3 b5
  exact ⟨s.abs, g, b1.1, c_all b1.2 a2 b3 a4, b5⟩
theorem left : LeftO pw vw lo (fun s => xlAt vw [] s && recOk [] s) hk.obs hk.val 4410 :=
  left_of (boot_open (p := pw) (N := 4410) (by kernel_rfl) (by kernel_rfl) (fun s => by kernel_rfl)) (fun w => by kernel_rfl) fin_ok
noncomputable def lawD : DefRec := ⟨Str.ofString "law", fArgs st44, fBody st44, fScope st44, match st44 with | .FunctionDef _ _ _ _ _ _ _ _ _ p => p | _ => ⟨0, 0, 0, 0⟩⟩
theorem ws : rw.wellSaid = true := by
  unfold OpenLaw.wellSaid OpenRow.wellSaid OpenRow.partSaid looksOpen
  repeat' (with_reducible apply look_both)
  all_goals decide +kernel
theorem hd (hc : WalkO vw lo (XL vw []) hk.says rw.row.toRowW lawD [] fun f vs => PySem.call f vs) : rw.Holds := by
  w_on
  refine holds_law ws fun said => ?_
  refine holds_open (q := vw) (loose := lo) (Xt := fun s => xlAt vw [] s && recOk [] s) (XP := XL vw []) (Yf := hk.obs) (Ya := hk.val) (YP := hk.says) (d := lawD) (kwd := []) (N := 4410) left hk.of hk.keeps (fun s e => xl_of s (Bool.and_eq_true_iff.mp e).1) XL.keeps (by kernel_rfl) (by kernel_rfl) (by kernel_rfl) (fun s e => recFacts_of (Bool.and_eq_true_iff.mp e).2) (by rfl) (by first | assumption | decide +kernel) (by decide +kernel) ⟨rfl, rfl, rfl, rfl, rfl, by decide +kernel⟩ ?hw hc
  (case hw => exact ⟨[.list []], by decide +kernel, by decide +kernel⟩)
noncomputable abbrev Ent := Addr × (Obj → Prop)
structure Gr where
  h₀ : Heap
  gens : Array GenState
  drawn : Drawn
  os : OsState
structure St (G : Gr) (s : Shared) (l : List Ent) : Prop where
  base : ∀ b o, G.h₀.get? b = some o → s.heap.get? b = some o
  led : ∀ p ∈ l, ∃ o, s.heap.get? p.1 = some o ∧ p.2 o
  new : ∀ p ∈ l, G.h₀.get? p.1 = none
  nd : (l.map (·.1)).Nodup
  gens : s.gens = G.gens
  drawn : s.drawn = G.drawn
  os : s.os = G.os
inductive Has (a : Addr) (P : Obj → Prop) : List Ent → Prop
  | head {r} : Has a P ((a, P) :: r)
  | tail {p r} : Has a P r → Has a P (p :: r)
theorem Has.mem {a : Addr} {P : Obj → Prop} : ∀ {l : List Ent}, Has a P l → (a, P) ∈ l
  | _, .head => .head _
  | _, .tail h => .tail _ h.mem
theorem Has.of_mem {a : Addr} {P : Obj → Prop} : ∀ {l : List Ent}, (a, P) ∈ l → Has a P l
  | _, .head _ => .head
  | _, .tail _ h => .tail (Has.of_mem h)
theorem Has.right {a : Addr} {P : Obj → Prop} {r : List Ent} (h : Has a P r) : ∀ l : List Ent, Has a P (l ++ r)
  | [] => h
  | _ :: l => .tail (h.right l)
theorem Has.left {a : Addr} {P : Obj → Prop} {l : List Ent} (h : Has a P l) (r : List Ent) : Has a P (l ++ r) :=
  .of_mem (List.mem_append_left _ h.mem)
inductive Rep (a : Addr) (P P' : Obj → Prop) : List Ent → List Ent → Prop
  | head {r} : Rep a P P' ((a, P) :: r) ((a, P') :: r)
  | tail {p r r'} : Rep a P P' r r' → Rep a P P' (p :: r) (p :: r')
theorem Rep.has {a : Addr} {P P' : Obj → Prop} {l l' : List Ent} (h : Rep a P P' l l') : Has a P l := by
  induction h with
  | head => exact .head
  | tail _ ih => exact .tail ih
theorem Rep.keys {a : Addr} {P P' : Obj → Prop} {l l' : List Ent} (h : Rep a P P' l l') : l'.map (·.1) = l.map (·.1) := by
  induction h with
  | head => rfl
  | tail _ ih => simp [ih]
theorem Rep.mem {a : Addr} {P P' : Obj → Prop} {l l' : List Ent} (h : Rep a P P' l l') (nd : (l.map (·.1)).Nodup) : ∀ p ∈ l', p = (a, P') ∨ (p ∈ l ∧ p.1 ≠ a) := by
  induction h with
  | head =>
    intro p hp
    rcases List.mem_cons.mp hp with rfl | hp
    · exact .inl rfl
    · refine .inr ⟨.tail _ hp, fun e => ?_⟩
      exact (List.nodup_cons.mp nd).1 (e ▸ List.mem_map.mpr ⟨p, hp, rfl⟩)
  | tail r ih =>
    intro p hp
    rcases List.mem_cons.mp hp with rfl | hp
    · refine .inr ⟨.head _, fun e => ?_⟩
      exact (List.nodup_cons.mp nd).1 (by show p.1 ∈ _; rw [e]; exact List.mem_map.mpr ⟨_, r.has.mem, rfl⟩)
    · rcases ih (List.nodup_cons.mp nd).2 p hp with h | ⟨h, h'⟩
      · exact .inl h
      · exact .inr ⟨.tail _ h, h'⟩
namespace St
variable {G : Gr} {s : Shared} {l l' : List Ent}
theorem get (F : St G s l) {a : Addr} {P : Obj → Prop} (h : Has a P l) : ∃ o, s.heap.get? a = some o ∧ P o := F.led _ h.mem
theorem off (F : St G s l) {a : Addr} {P : Obj → Prop} (h : Has a P l) : G.h₀.get? a = none := F.new _ h.mem
theorem tok (F : St G s l) (t : Nat) : St G { s with toks := t } l := ⟨F.base, F.led, F.new, F.nd, F.gens, F.drawn, F.os⟩
theorem sub (F : St G s l) (h : ∀ p ∈ l', p ∈ l) (nd : (l'.map (·.1)).Nodup) : St G s l' :=
  ⟨F.base, fun p hp => F.led p (h p hp), fun p hp => F.new p (h p hp), nd, F.gens, F.drawn, F.os⟩
theorem perm (F : St G s l) (h : l.Perm l') : St G s l' := F.sub (fun _ hp => h.mem_iff.mpr hp) ((h.map _).nodup_iff.mp F.nd)
theorem drop {p : Ent} (F : St G s (p :: l)) : St G s l := F.sub (fun _ h => .tail _ h) (List.nodup_cons.mp F.nd).2
theorem swap {p q : Ent} (F : St G s (p :: q :: l)) : St G s (q :: p :: l) := F.perm (.swap ..)
theorem weak {a : Addr} {P P' : Obj → Prop} (F : St G s l) (h : Rep a P P' l l') (w : ∀ o, P o → P' o) : St G s l' :=
  ⟨F.base, fun p hp => by
    rcases h.mem F.nd p hp with rfl | ⟨h', _⟩
    · obtain ⟨o, e, x⟩ := F.get h.has; exact ⟨o, e, w o x⟩
    · exact F.led p h', fun p hp => by
    rcases h.mem F.nd p hp with rfl | ⟨h', _⟩
    · exact F.off h.has
    · exact F.new p h', h.keys ▸ F.nd, F.gens, F.drawn, F.os⟩
theorem next (F : St G s l) {h' : Heap} {t : Nat} (hb : ∀ b o, G.h₀.get? b = some o → s.heap.get? b = some o → h'.get? b = some o) (hl : ∀ p ∈ l', ∃ o, h'.get? p.1 = some o ∧ p.2 o) (hn : ∀ p ∈ l', G.h₀.get? p.1 = none)
    (nd : (l'.map (·.1)).Nodup) : St G { s with heap := h', toks := t } l' := ⟨fun b o e => hb b o e (F.base b o e), hl, hn, nd, F.gens, F.drawn, F.os⟩
theorem keep (F : St G s l) {h' : Heap} {t : Nat} (hk : ∀ b o, s.heap.get? b = some o → h'.get? b = some o) : St G { s with heap := h', toks := t } l :=
  F.next (fun b o _ e => hk b o e) (fun p hp => let ⟨o, e, x⟩ := F.led p hp; ⟨o, hk _ _ e, x⟩) F.new F.nd
theorem upd (F : St G s l) {a : Addr} {P P' : Obj → Prop} (h : Rep a P P' l l') {h' : Heap} {t : Nat} (hk : ∀ b o, b ≠ a → s.heap.get? b = some o → h'.get? b = some o) (ho : ∃ o, h'.get? a = some o ∧ P' o) :
    St G { s with heap := h', toks := t } l' := by
  refine F.next (fun b o e0 e => hk b o (fun q => ?_) e) (fun p hp => ?_) (fun p hp => ?_) (h.keys ▸ F.nd)
  · rw [q, F.off h.has] at e0; cases e0
  · rcases h.mem F.nd p hp with rfl | ⟨h', hne⟩
    · exact ho
    · obtain ⟨o, e, x⟩ := F.led p h'; exact ⟨o, hk _ _ hne e, x⟩
  · rcases h.mem F.nd p hp with rfl | ⟨h', _⟩
    · exact F.off h.has
    · exact F.new p h'
theorem nonew (F : St G s l) {a : Addr} (ha : s.heap.get? a = none) : a ∉ l.map (·.1) := fun h => by
  obtain ⟨p, hp, rfl⟩ := List.mem_map.mp h
  obtain ⟨o, e, _⟩ := F.led p hp
  rw [ha] at e; cases e
theorem cons (F : St G s l) {a : Addr} {P : Obj → Prop} {h' : Heap} {t : Nat} (ha : s.heap.get? a = none) (hk : ∀ b o, s.heap.get? b = some o → h'.get? b = some o) (ho : ∃ o, h'.get? a = some o ∧ P o) :
    St G { s with heap := h', toks := t } ((a, P) :: l) := by
  refine F.next (fun b o _ e => hk b o e) (fun p hp => ?_) (fun p hp => ?_) ?_
  · rcases List.mem_cons.mp hp with rfl | hp
    · exact ho
    · obtain ⟨o, e, x⟩ := F.led p hp; exact ⟨o, hk _ _ e, x⟩
  · rcases List.mem_cons.mp hp with rfl | hp
    · cases q : G.h₀.get? a with
      | none => rfl
      | some o => rw [F.base _ _ q] at ha; cases ha
    · exact F.new p hp
  · exact List.nodup_cons.mpr ⟨F.nonew ha, F.nd⟩
theorem push (F : St G s l) {P : Obj → Prop} {o : Obj} {t : Nat} (ho : P o) (hf : o.isFreed = false) : St G { s with heap := s.heap.push o, toks := t } ((s.heap.objs.size, P) :: l) :=
  F.cons (by
    cases q : s.heap.get? s.heap.objs.size with
    | none => rfl
    | some o => exact absurd (Heap.lt_size q) (Nat.lt_irrefl _)) (fun _ _ e => Heap.get?_push_of_some _ e) ⟨o, Heap.get?_push_size _ hf, ho⟩
end St
inductive Del (a : Addr) : List Ent → List Ent → Prop
  | head {P r} : Del a ((a, P) :: r) r
  | tail {p r r'} : Del a r r' → Del a (p :: r) (p :: r')
theorem Del.sub {a : Addr} {l l' : List Ent} (h : Del a l l') : l'.Sublist l := by
  induction h with
  | head => exact List.sublist_cons_self ..
  | tail _ ih => exact ih.cons_cons _
theorem Del.not {a : Addr} {l l' : List Ent} (h : Del a l l') (nd : (l.map (·.1)).Nodup) : ∀ p ∈ l', p.1 ≠ a := by
  induction h with
  | head =>
    intro p hp e
    exact (List.nodup_cons.mp nd).1 (e ▸ List.mem_map.mpr ⟨p, hp, rfl⟩)
  | @tail q r r' hr ih =>
    intro p hp
    rcases List.mem_cons.mp hp with rfl | hp
    · intro e
      have : a ∈ r.map (·.1) := by
        clear ih nd hp
        induction hr with
        | head => exact .head _
        | tail _ ih => exact .tail _ ih
      exact (List.nodup_cons.mp nd).1 (by show p.1 ∈ _; rw [e]; exact this)
    · exact ih (List.nodup_cons.mp nd).2 p hp
theorem Del.has {a : Addr} : ∀ {l l' : List Ent}, Del a l l' → ∃ P, Has a P l
  | _, _, .head => ⟨_, .head⟩
  | _, _, .tail h => let ⟨_, z⟩ := h.has; ⟨_, .tail z⟩
theorem St.del {G : Gr} {s : Shared} {l l' : List Ent} {a : Addr} (F : St G s l) (h : Del a l l') : St G s l' :=
  F.sub (fun _ hp => h.sub.subset hp) ((h.sub.map _).nodup F.nd)
theorem St.gone {G : Gr} {s : Shared} {l l' : List Ent} {a : Addr} (F : St G s l) (h : Del a l l') {h' : Heap} {t : Nat} (hk : ∀ b o, b ≠ a → s.heap.get? b = some o → h'.get? b = some o) : St G { s with heap := h', toks := t } l' := by
  have F' := F.del h
  refine F.next (fun b o e0 e => hk b o (fun q => ?_) e) (fun p hp => ?_) F'.new F'.nd
  · obtain ⟨P, hP⟩ := h.has
    rw [q, F.off hP] at e0; cases e0
  · obtain ⟨o, e, x⟩ := F'.led p hp
    exact ⟨o, hk _ _ (h.not F.nd p hp) e, x⟩
inductive Ex (p : Ent) : List Ent → List Ent → Prop
  | head {r} : Ex p (p :: r) r
  | tail {q r r'} : Ex p r r' → Ex p (q :: r) (q :: r')
theorem Ex.perm {p : Ent} {l l' : List Ent} (h : Ex p l l') : l.Perm (p :: l') := by
  induction h with
  | head => exact .refl _
  | tail _ ih => exact (ih.cons _).trans (.swap ..)
inductive Pm : List Ent → List Ent → Prop
  | refl {l} : Pm l l
  | cons {p l l₁ l₂} : Ex p l l₁ → Pm l₁ l₂ → Pm l (p :: l₂)
  | drop {q l l'} : Pm l l' → Pm (q :: l) l'
theorem St.name {G : Gr} {s : Shared} {l l' : List Ent} {a : Addr} {P P' : Obj → Prop} (F : St G s l) (h : Rep a P P' l l') (w : ∀ o, s.heap.get? a = some o → P o → P' o) : St G s l' :=
  ⟨F.base, fun p hp => by
    rcases h.mem F.nd p hp with rfl | ⟨h', _⟩
    · obtain ⟨o, e, x⟩ := F.get h.has; exact ⟨o, e, w o e x⟩
    · exact F.led p h', fun p hp => by
    rcases h.mem F.nd p hp with rfl | ⟨h', _⟩
    · exact F.off h.has
    · exact F.new p h', h.keys ▸ F.nd, F.gens, F.drawn, F.os⟩
noncomputable abbrev S (l : List Nat) : Str := ⟨l.toArray⟩
theorem S_len (l : List Nat) : (S l).length = l.length := by simp [Str.length]
inductive Pt where
  | int (i : Int)
  | str (y : List Nat)
  | ref (a : Addr)
  | none
  | bool (b : Bool)
  | bi (id : String)
  | ty (T : String)
  | any
noncomputable def Pt.ok : Pt → Value → Prop
  | .int i, v => ∃ t, v = .int i t
  | .str y, v => ∃ t, v = .str (S y) t
  | .ref a, v => v = .ref a
  | .none, v => v = .none
  | .bool b, v => v = .bool b
  | .bi id, v => v = .builtin id
  | .ty T, v => v = .type T
  | .any, _ => True
inductive Oks : List Pt → List Value → Prop
  | nil : Oks [] []
  | cons {p v ps vs} : p.ok v → Oks ps vs → Oks (p :: ps) (v :: vs)
namespace Oks
theorem len : ∀ {ps : List Pt} {vs : List Value}, Oks ps vs → vs.length = ps.length
  | _, _, .nil => rfl
  | _, _, .cons _ h => by simp [h.len]
theorem get : ∀ {ps : List Pt} {vs : List Value}, Oks ps vs → ∀ {j : Nat} {p : Pt}, ps[j]? = some p → ∃ v, vs[j]? = some v ∧ p.ok v
  | _, _, .nil, _, _, h => by simp at h
  | _, _, .cons h _, 0, _, e => by simp at e; subst e; exact ⟨_, rfl, h⟩
  | _, _, .cons _ h, j + 1, _, e => by simpa using h.get (j := j) (by simpa using e)
theorem app : ∀ {ps qs : List Pt} {vs us : List Value}, Oks ps vs → Oks qs us → Oks (ps ++ qs) (vs ++ us)
  | _, _, _, _, .nil, k => k
  | _, _, _, _, .cons h r, k => .cons h (r.app k)
theorem snoc {ps : List Pt} {vs : List Value} {p : Pt} {v : Value} (h : Oks ps vs) (k : p.ok v) : Oks (ps ++ [p]) (vs ++ [v]) := h.app (.cons k .nil)
theorem set {p : Pt} {v : Value} (k : p.ok v) : ∀ {ps : List Pt} {vs : List Value} (j : Nat), Oks ps vs → Oks (ps.set j p) (vs.set j v)
  | _, _, _, .nil => .nil
  | _, _, 0, .cons _ r => .cons k r
  | _, _, j + 1, .cons h r => .cons h (r.set k j)
theorem split : ∀ {ps qs : List Pt} {vs : List Value}, Oks (ps ++ qs) vs → ∃ us ws, vs = us ++ ws ∧ Oks ps us ∧ Oks qs ws
  | [], _, _, h => ⟨[], _, rfl, .nil, h⟩
  | _ :: _, _, _, .cons h r => let ⟨us, ws, e, a, b⟩ := r.split; ⟨_ :: us, ws, by rw [e]; rfl, .cons h a, b⟩
theorem rev {ps : List Pt} {vs : List Value} (h : Oks ps vs) : Oks ps.reverse vs.reverse := by
  induction h with
  | nil => exact .nil
  | cons h _ ih => simpa using ih.snoc h
theorem toStrs : ∀ {ys : List (List Nat)} {vs : List Value}, Oks (ys.map Pt.str) vs → StrsAre vs (ys.map S)
  | [], _, .nil => .nil
  | _ :: _, _, .cons ⟨t, e⟩ r => by subst e; exact .cons _ t r.toStrs
end Oks
noncomputable def Kn : Option (Option Pt) → Option Value → Prop
  | none, r => r = none
  | some none, _ => True
  | some (some p), r => ∃ v, r = some v ∧ p.ok v
noncomputable abbrev Loc := List (Str × Option Pt)
noncomputable abbrev bd (x : Str) (p : Pt) : Str × Option Pt := (x, some p)
noncomputable def nsP (loc : Loc) : Obj → Prop := fun o => ∃ es ep, o.data = .dict es ep ∧ StrKeys es ∧ ∀ x, Kn (loc.lookup x) (nsFind es x)
noncomputable def lst (ps : List Pt) : Obj → Prop := fun o => ∃ vs n, Oks ps vs ∧ o = { cls := .type "list", data := .seq vs.toArray n }
noncomputable def tup (ps : List Pt) : Obj → Prop := fun o => ∃ vs n, Oks ps vs ∧ o = { cls := .type "tuple", data := .seq vs.toArray n }
noncomputable def ils (ps : List Pt) : Obj → Prop := fun o => o.cls = .type "list" ∧ ∃ vs n, Oks ps vs ∧ o.data = .seq vs.toArray n
theorem ils_of {ps : List Pt} : ∀ o, lst ps o → ils ps o := fun _ ⟨vs, n, h, e⟩ => ⟨by rw [e], vs, n, h, by rw [e]⟩
noncomputable def cel (p : Option Pt) : Obj → Prop := fun o => match p with
  | none => ∃ v, o.data = .cell v
  | some p => ∃ v, o.data = .cell (some v) ∧ p.ok v
noncomputable def li (a : Addr) (i : Nat) : Obj → Prop := fun o => o.cls = .type "list_iterator" ∧ o.data = .fields #[.ref a, .int i 0]
noncomputable def ti (a : Addr) (i : Nat) : Obj → Prop := fun o => o.cls = .type "tuple_iterator" ∧ o.data = .fields #[.ref a, .int i 0]
noncomputable def rng (a b c : Int) : Obj → Prop := fun o => ∃ t u v, o = { cls := .type "range", dict := none, data := .fields #[.int a t, .int b u, .int c v], slots := #[] }
noncomputable def ri (x left step : Int) : Obj → Prop := fun o => o = { cls := .type "range_iterator", dict := none, data := .fields #[rawInt x, rawInt left, rawInt step], slots := #[] }
section
variable {G : Gr} {s : Shared} {l l' : List Ent} {a L : Addr} {loc : Loc} {ps qs : List Pt}
theorem St.ns (F : St G s l) (h : Has L (nsP loc) l) : ∃ m, s.heap.Ns L m ∧ ∀ x, Kn (loc.lookup x) (m x) :=
  let ⟨o, e, es, ep, x, k, z⟩ := F.get h; ⟨_, ⟨o, es, ep, e, x, k, fun _ => rfl⟩, z⟩
theorem nsP_of {h : Heap} {m : Str → Option Value} (H : h.Ns L m) (e : ∀ x, Kn (loc.lookup x) (m x)) : ∃ o, h.get? L = some o ∧ nsP loc o :=
  let ⟨o, es, ep, ho, hd, hk, hm⟩ := H; ⟨o, ho, es, ep, hd, hk, fun x => by rw [hm]; exact e x⟩
theorem St.lrec (F : St G s l) (h : Has a (lst ps) l) : ∃ vs n, Oks ps vs ∧ s.heap.get? a = some { cls := .type "list", dict := none, data := .seq vs.toArray n, slots := #[] } := let ⟨_, e, vs, n, k, x⟩ := F.get h; ⟨vs, n, k, by rw [e, x]⟩
theorem St.trec (F : St G s l) (h : Has a (tup ps) l) : ∃ vs n, Oks ps vs ∧ s.heap.get? a = some { cls := .type "tuple", dict := none, data := .seq vs.toArray n, slots := #[] } := let ⟨_, e, vs, n, k, x⟩ := F.get h; ⟨vs, n, k, by rw [e, x]⟩
theorem St.irec (F : St G s l) (h : Has a (ils ps) l) : ∃ vs, Oks ps vs ∧ s.heap.IsList a vs.toArray := let ⟨_, e, c, vs, n, k, x⟩ := F.get h; ⟨vs, k, _, e, c, n, x⟩
theorem St.mapSeq {vs : List Value} {n : Nat} (F : St G s l) (f : Array Value → Array Value) (e : s.heap.get? a = some { cls := .type "list", dict := none, data := .seq vs.toArray n, slots := #[] }) (k : Oks qs (f vs.toArray).toList) (h : Rep a (lst ps) (lst qs) l l') {t : Nat} : St G { s with heap := s.heap.update a (Obj.mapSeq f), toks := t } l' := by
  refine F.upd h (fun b o hb q => (Heap.SameBut.update ..).2 b hb |>.trans q) ?_
  exact ⟨_, Heap.get?_update_self _ e (by simp [Obj.mapSeq, Obj.isFreed]), _, _, k, by simp [Obj.mapSeq]; rfl⟩
end
inductive Lk {α : Type} (x : Str) (v : α) : List (Str × α) → Prop
  | head {r} : Lk x v ((x, v) :: r)
  | tail {y u r} : (x == y) = false → Lk x v r → Lk x v ((y, u) :: r)
theorem Lk.eq {α : Type} {x : Str} {v : α} : ∀ {l : List (Str × α)}, Lk x v l → l.lookup x = some v
  | _, .head => by simp [List.lookup]
  | _, .tail h r => by rw [List.lookup_cons, h]; exact r.eq
inductive Put (x : Str) (v : Pt) : Loc → Loc → Prop
  | nil : Put x v [] [(x, some v)]
  | hit {u r} : Put x v ((x, u) :: r) ((x, some v) :: r)
  | miss {y u r r'} : (x == y) = false → Put x v r r' → Put x v ((y, u) :: r) ((y, u) :: r')
theorem Put.eq {x : Str} {p : Pt} {v : Value} {l l' : Loc} (h : Put x p l l') (hv : p.ok v) {m : Str → Option Value} (k : ∀ y, Kn (l.lookup y) (m y)) (y : Str) : Kn (l'.lookup y) (if y = x then some v else m y) := by
  have e : l'.lookup y = if y = x then some (some p) else l.lookup y := by
    clear k
    induction h with
    | nil =>
      by_cases q : y = x
      · subst q; simp [List.lookup]
      · have : (y == x) = false := by simpa using q
        simp [List.lookup, q, this]
    | hit =>
      by_cases q : y = x
      · subst q; simp [List.lookup]
      · have : (y == x) = false := by simpa using q
        simp only [List.lookup_cons, q, this, if_false]
    | miss hne _ ih =>
      rename_i z u r r' _
      have hne' : ¬ x = z := by simpa using hne
      rw [List.lookup_cons, List.lookup_cons, ih]
      by_cases q : y = x
      · subst q; rw [hne]
      · by_cases q2 : y = z
        · subst q2; simp [q]
        · have : (y == z) = false := by simpa using q2
          simp [this, q]
  rw [e]
  by_cases q : y = x
  · simp only [q, if_true]; exact ⟨v, rfl, hv⟩
  · simp only [q, if_false]; exact k y
inductive Wk : Loc → Loc → Prop
  | refl {l} : Wk l l
  | keep {p r r'} : Wk r r' → Wk (p :: r) (p :: r')
  | forget {x v r r'} : Wk r r' → Wk ((x, v) :: r) ((x, none) :: r')
  | new {x r} : Wk [] r → Wk [] ((x, none) :: r)
theorem Wk.kn {l l' : Loc} (h : Wk l l') (y : Str) {q : Option Value} (k : Kn (l.lookup y) q) : Kn (l'.lookup y) q := by
  induction h with
  | refl => exact k
  | @keep p r r' _ ih =>
    obtain ⟨x, v⟩ := p
    cases e : y == x with
    | true => simp only [List.lookup_cons, e] at k ⊢; exact k
    | false => simp only [List.lookup_cons, e] at k ⊢; exact ih k
  | @forget x v r r' _ ih =>
    cases e : y == x with
    | true => simp only [List.lookup_cons, e]; trivial
    | false => simp only [List.lookup_cons, e] at k ⊢; exact ih k
  | @new x r _ ih =>
    cases e : y == x with
    | true => simp only [List.lookup_cons, e]; trivial
    | false => simp only [List.lookup_cons, e]; exact ih k
theorem Wk.w {l l' : Loc} (h : Wk l l') : ∀ o, nsP l o → nsP l' o := fun _ ⟨es, ep, d, k, z⟩ => ⟨es, ep, d, k, fun x => h.kn x (z x)⟩
inductive Im : List Ent → List Ent → Prop
  | refl {l} : Im l l
  | keep {p l l₁ l₂} : Ex p l l₁ → Im l₁ l₂ → Im l (p :: l₂)
  | wk {a P P' l l₁ l₂} : Ex (a, P) l l₁ → (∀ o, P o → P' o) → Im l₁ l₂ → Im l ((a, P') :: l₂)
  | drop {q l l'} : Im l l' → Im (q :: l) l'
  | perm {l m l'} : l.Perm m → Im m l' → Im l l'
theorem Im.keys {l l' : List Ent} (h : Im l l') : ∃ m, (l.map (·.1)).Perm (m ++ l'.map (·.1)) := by
  induction h with
  | refl => exact ⟨[], .refl _⟩
  | keep e _ ih =>
    obtain ⟨m, ih⟩ := ih
    exact ⟨m, (e.perm.map _).trans ((ih.cons _).trans List.perm_middle.symm)⟩
  | wk e _ _ ih =>
    obtain ⟨m, ih⟩ := ih
    exact ⟨m, (e.perm.map _).trans ((ih.cons _).trans List.perm_middle.symm)⟩
  | drop _ ih =>
    obtain ⟨m, ih⟩ := ih
    exact ⟨_ :: m, ih.cons _⟩
  | perm h _ ih =>
    obtain ⟨m, ih⟩ := ih
    exact ⟨m, (h.map _).trans ih⟩
theorem Im.mem {l l' : List Ent} (h : Im l l') : ∀ p ∈ l', ∃ P, (p.1, P) ∈ l ∧ ∀ o, P o → p.2 o := by
  induction h with
  | refl => exact fun p hp => ⟨_, hp, fun _ x => x⟩
  | keep e _ ih =>
    intro p hp
    rcases List.mem_cons.mp hp with rfl | hp
    · exact ⟨_, e.perm.mem_iff.mpr (.head _), fun _ x => x⟩
    · obtain ⟨P, h, w⟩ := ih p hp; exact ⟨P, e.perm.mem_iff.mpr (.tail _ h), w⟩
  | wk e w _ ih =>
    intro p hp
    rcases List.mem_cons.mp hp with rfl | hp
    · exact ⟨_, e.perm.mem_iff.mpr (.head _), w⟩
    · obtain ⟨P, h, w⟩ := ih p hp; exact ⟨P, e.perm.mem_iff.mpr (.tail _ h), w⟩
  | drop _ ih =>
    intro p hp
    obtain ⟨P, h, w⟩ := ih p hp; exact ⟨P, .tail _ h, w⟩
  | perm k _ ih =>
    intro p hp
    obtain ⟨P, h, w⟩ := ih p hp; exact ⟨P, k.mem_iff.mpr h, w⟩
theorem St.im {G : Gr} {s : Shared} {l l' : List Ent} (F : St G s l) (h : Im l l') : St G s l' := by
  refine ⟨F.base, fun p hp => ?_, fun p hp => ?_, ?_, F.gens, F.drawn, F.os⟩
  · obtain ⟨P, h, w⟩ := h.mem p hp
    obtain ⟨o, e, x⟩ := F.led _ h
    exact ⟨o, e, w o x⟩
  · obtain ⟨P, h, w⟩ := h.mem p hp
    exact F.new (p.1, P) h
  · obtain ⟨m, q⟩ := h.keys
    have := q.nodup_iff.mp F.nd
    exact (List.nodup_append.mp this).2.1
noncomputable def gE : List Ent → Nat → Option Ent
  | [], _ => none
  | e :: _, 0 => some e
  | _ :: r, i + 1 => gE r i
noncomputable def sE : List Ent → Nat → Ent → List Ent
  | [], _, _ => []
  | _ :: r, 0, e => e :: r
  | p :: r, i + 1, e => p :: sE r i e
theorem Has.of {a : Addr} {P : Obj → Prop} : ∀ {l : List Ent} {i : Nat}, gE l i = some (a, P) → Has a P l
  | [], _, h => nomatch h
  | e :: _, 0, h => by cases h; exact .head
  | _ :: _, i + 1, h => .tail (Has.of (i := i) h)
theorem Rep.of {a : Addr} {P P' : Obj → Prop} : ∀ {l : List Ent} {i : Nat}, gE l i = some (a, P) → Rep a P P' l (sE l i (a, P'))
  | [], _, h => nomatch h
  | e :: _, 0, h => by cases h; exact .head
  | _ :: _, i + 1, h => .tail (Rep.of (i := i) h)
noncomputable def gN : Loc → Nat → Option (Str × Option Pt)
  | [], _ => none
  | e :: _, 0 => some e
  | _ :: r, i + 1 => gN r i
noncomputable def sN : Loc → Nat → Str → Pt → Loc
  | [], _, x, p => [(x, some p)]
  | (y, _) :: r, 0, _, p => (y, some p) :: r
  | q :: r, i + 1, x, p => q :: sN r i x p
noncomputable def ix : Loc → Str → Nat → Bool
  | [], _, 0 => true
  | [], _, _ + 1 => false
  | (y, _) :: _, x, 0 => x == y
  | (y, _) :: r, x, j + 1 => !(x == y) && ix r x j
theorem Lk.of {x y : Str} {p : Pt} : ∀ {loc : Loc} {j : Nat}, gN loc j = some (y, some p) → ix loc x j = true → Lk x (some p) loc
  | [], _, h, _ => nomatch h
  | e :: _, 0, h, k => by
    cases h
    have : x = y := by simpa [ix] using k
    subst this; exact .head
  | (z, u) :: r, j + 1, h, k => by
    simp only [ix, Bool.and_eq_true, Bool.not_eq_true'] at k
    exact .tail k.1 (Lk.of h k.2)
theorem Put.of {x : Str} {p : Pt} : ∀ {loc : Loc} {j : Nat}, ix loc x j = true → Put x p loc (sN loc j x p)
  | [], 0, _ => .nil
  | [], _ + 1, h => nomatch h
  | (y, u) :: r, 0, k => by
    have : x = y := by simpa [ix] using k
    subst this; exact .hit
  | (y, u) :: r, j + 1, k => by
    simp only [ix, Bool.and_eq_true, Bool.not_eq_true'] at k
    exact .miss k.1 (Put.of k.2)
noncomputable abbrev NoE : Value → Shared → Prop := fun _ _ => False
structure Bs (G : Gr) (w : World) : Prop where
  X : (K w.params).In G.h₀
  g : ∃ mg, G.h₀.Ns mainGlobals mg
  b : ∃ mb, G.h₀.Ns builtinsNs mb ∧ ∀ x : Str, x ≠ ("__name__" : Str) → mb x = bootBuiltins x
  lim : G.h₀.NoLimit
  sm : G.h₀.get? sysModules ≠ none
structure Ar (A : Around) (n : Nat) : Prop where
  hh : A.handled = none
  dep : A.depth + 2 * n + 10 ≤ 900
  un : A.units + 10 * n + 50 ≤ 9000
theorem Ar.le {A : Around} {n m : Nat} (h : Ar A n) (e : m ≤ n) : Ar A m := ⟨h.hh, by have := h.dep; omega, by have := h.un; omega⟩
theorem Ar.deeper {A : Around} {n : Nat} (h : Ar A (n + 1)) (env : Env) : Ar (A.deeper env) n := ⟨h.hh, by have := h.dep; show A.depth + 1 + _ + _ ≤ _; omega, by have := h.un; show A.units + 3 + _ + _ ≤ _; omega⟩
theorem Ar.room {A : Around} {n : Nat} (h : Ar A n) : A.depth < recursionLimit := by have := h.dep; show _ < 1000; omega
theorem Ar.in1 {A : Around} {n : Nat} (h : Ar A (n + 1)) : Ar A.in1 n := ⟨h.hh, by have := h.dep; show A.depth + _ + _ ≤ _; omega, by have := h.un; show A.units + 1 + _ + _ ≤ _; omega⟩
structure En (env : Env) (L : Addr) (sc : Scope) (cs : List (Str × Addr)) : Prop where
  l : env.locals = L
  s : env.scope = sc
  c : env.cells = cs
  g : env.globals = mainGlobals
  b : env.builtins = builtinsNs
noncomputable def okN (sc : Scope) (x : Str) (k : NameKind) : Bool := sc.kind == .function && (sc.names.lookup x == some k && (x != ("__debug__" : Str) && x != ("__classdict__" : Str) && x != ("__name__" : Str)))
structure OkN (env : Env) (x : Str) (k : NameKind) : Prop where
  f : env.scope.kind = .function
  k : env.kindOf x = some k
  d : (x == ("__debug__" : Str)) = false
  c : (x == ("__classdict__" : Str)) = false
  n : (x == ("__name__" : Str)) = false
theorem OkN.mk' {env : Env} {L : Addr} {sc : Scope} {cs : List (Str × Addr)} {x : Str} {k : NameKind} (e : En env L sc cs) (h : okN sc x k = true) : OkN env x k := by
  simp only [okN, Bool.and_eq_true, beq_iff_eq, bne_iff_ne] at h
  obtain ⟨h1, h2, h3, h4⟩ := h
  obtain ⟨h3, h5⟩ := h3
  exact ⟨e.s ▸ h1, by show env.scope.names.lookup x = _; rw [e.s]; exact h2, by simpa using h3, by simpa using h5, by simpa using h4⟩
theorem okI {i : Int} {t : Tok} : Pt.ok (.int i) (.int i t) := ⟨t, rfl⟩
theorem okS {y : List Nat} {t : Tok} : Pt.ok (.str y) (.str (S y) t) := ⟨t, rfl⟩
theorem okR {a : Addr} : Pt.ok (.ref a) (.ref a) := rfl
theorem okNo : Pt.ok .none .none := rfl
theorem okB {b : Bool} : Pt.ok (.bool b) (.bool b) := rfl
structure Bx (G : Gr) (w : World) (n : Nat) where
  A : Around
  bs : Bs G w
  hA : Ar A n
inductive Fl where
  | next
  | brk
  | cont
  | ret (p : Pt)
noncomputable def Fl.ok : Fl → Flow → Prop
  | .next, f => f = .next
  | .brk, f => f = .brk
  | .cont, f => f = .cont
  | .ret p, f => ∃ v, f = .ret v ∧ p.ok v
section
variable {G : Gr} {w : World} {n : Nat} (B : Bx G w n) (l : List Ent)
noncomputable def WV (m : Sem Value) (K : Pt → List Ent → Prop) : Prop := ∀ s, St G s l → wpAny (model pw w) B.A m (fun v s' => ∃ p l', p.ok v ∧ St G s' l' ∧ K p l') NoE s
noncomputable def WU (m : Sem Unit) (K : List Ent → Prop) : Prop := ∀ s, St G s l → wpAny (model pw w) B.A m (fun _ s' => ∃ l', St G s' l' ∧ K l') NoE s
noncomputable def WB (m : Sem Bool) (K : Bool → List Ent → Prop) : Prop := ∀ s, St G s l → wpAny (model pw w) B.A m (fun b s' => ∃ l', St G s' l' ∧ K b l') NoE s
noncomputable def WL (m : Sem (List Value)) (K : List Pt → List Ent → Prop) : Prop := ∀ s, St G s l → wpAny (model pw w) B.A m (fun vs s' => ∃ ps l', Oks ps vs ∧ St G s' l' ∧ K ps l') NoE s
noncomputable def WF (m : Sem Flow) (K : Fl → List Ent → Prop) : Prop := ∀ s, St G s l → wpAny (model pw w) B.A m (fun f s' => ∃ fl l', Fl.ok fl f ∧ St G s' l' ∧ K fl l') NoE s
noncomputable def WN (m : Sem (Option Value)) (K : Option Pt → List Ent → Prop) : Prop := ∀ s, St G s l → wpAny (model pw w) B.A m (fun r s' => ∃ l', St G s' l' ∧ ((r = none ∧ K none l') ∨ ∃ v p, r = some v ∧ p.ok v ∧ K (some p) l')) NoE s
noncomputable def WV1 (f : Value → Sem Value) (p : Pt) (K : Pt → List Ent → Prop) : Prop := ∀ v, p.ok v → WV B l (f v) K
noncomputable def WV2 (f : Value → Value → Sem Value) (p q : Pt) (K : Pt → List Ent → Prop) : Prop := ∀ v u, p.ok v → q.ok u → WV B l (f v u) K
noncomputable def WB1 (f : Value → Sem Bool) (p : Pt) (K : Bool → List Ent → Prop) : Prop := ∀ v, p.ok v → WB B l (f v) K
noncomputable def WU1 (f : Value → Sem Unit) (p : Pt) (K : List Ent → Prop) : Prop := ∀ v, p.ok v → WU B l (f v) K
noncomputable def WU2 (f : Value → Value → Sem Unit) (p q : Pt) (K : List Ent → Prop) : Prop := ∀ v u, p.ok v → q.ok u → WU B l (f v u) K
noncomputable def WU3 (f : Value → Value → Value → Sem Unit) (p q r : Pt) (K : List Ent → Prop) : Prop := ∀ v u x, p.ok v → q.ok u → r.ok x → WU B l (f v u x) K
noncomputable def WC (f : Value) (ps : List Pt) (K : Pt → List Ent → Prop) : Prop := ∀ vs, Oks ps vs → WV B l (call f vs) K
end
section
variable {G : Gr} {w : World} {n : Nat} (B : Bx G w n) (env : Env)
noncomputable abbrev q2 (f : Value → Value → Sem Value) (KV : Pt → List Ent → Prop) (p : Pt) : Pt → List Ent → Prop := fun q l => WV2 B l f p q KV
noncomputable abbrev q1 (b : Expr) (f : Value → Value → Sem Value) (KV : Pt → List Ent → Prop) : Pt → List Ent → Prop := fun p l => WV B l (eval b env) (q2 B f KV p)
noncomputable abbrev qf (f : Value → Sem Value) (KV : Pt → List Ent → Prop) : Pt → List Ent → Prop := fun p l => WV1 B l f p KV
noncomputable abbrev qKeep (KV : Pt → List Ent → Prop) (p : Pt) : List Ent → Prop := fun l => KV p l
noncomputable abbrev qNamed (y : Str) (KV : Pt → List Ent → Prop) : Pt → List Ent → Prop := fun p l => WU1 B l (storeName env y) p (qKeep KV p)
noncomputable abbrev qIfE (a b : Expr) (KV : Pt → List Ent → Prop) : Bool → List Ent → Prop := fun t l => (t = true → WV B l (eval a env) KV) ∧ (t = false → WV B l (eval b env) KV)
noncomputable abbrev qAnd2t (b : Expr) (KV : Pt → List Ent → Prop) (p : Pt) : Bool → List Ent → Prop := fun t l => (t = true → WV B l (eval b env) KV) ∧ (t = false → KV p l)
noncomputable abbrev qAnd2 (b : Expr) (KV : Pt → List Ent → Prop) : Pt → List Ent → Prop := fun p l => WB1 B l truthy p (qAnd2t B env b KV p)
noncomputable abbrev qOr2t (b : Expr) (KV : Pt → List Ent → Prop) (p : Pt) : Bool → List Ent → Prop := fun t l => (t = true → KV p l) ∧ (t = false → WV B l (eval b env) KV)
noncomputable abbrev qOr2 (b : Expr) (KV : Pt → List Ent → Prop) : Pt → List Ent → Prop := fun p l => WB1 B l truthy p (qOr2t B env b KV p)
noncomputable abbrev qCons (KL : List Pt → List Ent → Prop) (p : Pt) : List Pt → List Ent → Prop := fun ps l => KL (p :: ps) l
noncomputable abbrev qItem (pos : Pos) (r : List Expr) (KL : List Pt → List Ent → Prop) : Pt → List Ent → Prop := fun p l => WL B l (spliced (backTo pos (starEach r env))) (qCons KL p)
noncomputable abbrev qList (KV : Pt → List Ent → Prop) : List Pt → List Ent → Prop := fun ps l => ps.length ≤ 1000000 ∧ ∀ a, KV (.ref a) ((a, lst ps) :: l)
noncomputable abbrev qTup (KV : Pt → List Ent → Prop) : List Pt → List Ent → Prop := fun ps l => ps.length ≤ 1000000 ∧ ∀ a, KV (.ref a) ((a, tup ps) :: l)
noncomputable abbrev qT (KB : Bool → List Ent → Prop) : Pt → List Ent → Prop := fun r l => WB1 B l truthy r KB
noncomputable abbrev qNot (KB : Bool → List Ent → Prop) : Bool → List Ent → Prop := fun b l => KB (!b) l
noncomputable abbrev qNotV (KV : Pt → List Ent → Prop) : Bool → List Ent → Prop := fun b l => KV (.bool (!b)) l
noncomputable abbrev qAnd (r : List Expr) (KB : Bool → List Ent → Prop) : Bool → List Ent → Prop := fun b l => (b = true → WB B l (allTrue .And r env) KB) ∧ (b = false → KB false l)
noncomputable abbrev qOr (r : List Expr) (KB : Bool → List Ent → Prop) : Bool → List Ent → Prop := fun b l => (b = true → KB true l) ∧ (b = false → WB B l (allTrue .Or r env) KB)
noncomputable abbrev qRest (r : List Stmt) (KF : Fl → List Ent → Prop) : List Ent → Prop := fun l => WF B l (execs r env) KF
noncomputable abbrev qRet (KF : Fl → List Ent → Prop) : Pt → List Ent → Prop := fun p l => KF (.ret p) l
noncomputable abbrev qStore (y : Str) (r : List Stmt) (KF : Fl → List Ent → Prop) : Pt → List Ent → Prop := fun p l => WU1 B l (storeName env y) p (qRest B env r KF)
noncomputable abbrev qSub3 (r : List Stmt) (KF : Fl → List Ent → Prop) (p a : Pt) : Pt → List Ent → Prop := fun b l => WU3 B l setItem a b p (qRest B env r KF)
noncomputable abbrev qSub2 (i : Expr) (r : List Stmt) (KF : Fl → List Ent → Prop) (p : Pt) : Pt → List Ent → Prop := fun a l => WV B l (eval i env) (qSub3 B env r KF p a)
noncomputable abbrev qSub1 (o i : Expr) (r : List Stmt) (KF : Fl → List Ent → Prop) : Pt → List Ent → Prop := fun p l => WV B l (eval o env) (qSub2 B env i r KF p)
noncomputable abbrev qAs5 (r : List Stmt) (KF : Fl → List Ent → Prop) (a b : Pt) : Pt → List Ent → Prop := fun z l => WU3 B l setItem a b z (qRest B env r KF)
noncomputable abbrev qAs3 (op : Operator) (e : Expr) (r : List Stmt) (KF : Fl → List Ent → Prop) (a b : Pt) : Pt → List Ent → Prop := fun p l => WV B l (eval e env) (q2 B (inplaceOp op) (qAs5 B env r KF a b) p)
noncomputable abbrev qAs2 (op : Operator) (e : Expr) (r : List Stmt) (KF : Fl → List Ent → Prop) (a : Pt) : Pt → List Ent → Prop := fun b l => WV2 B l getItem a b (qAs3 B env op e r KF a b)
noncomputable abbrev qAs1 (op : Operator) (i e : Expr) (r : List Stmt) (KF : Fl → List Ent → Prop) : Pt → List Ent → Prop := fun a l => WV B l (eval i env) (qAs2 B env op e r KF a)
noncomputable abbrev qAa3 (at' : Str) (r : List Stmt) (KF : Fl → List Ent → Prop) (a : Pt) : Pt → List Ent → Prop := fun z l => WU2 B l (fun ov v => setAttr ov at' v) a z (qRest B env r KF)
noncomputable abbrev qAa2 (at' : Str) (op : Operator) (e : Expr) (r : List Stmt) (KF : Fl → List Ent → Prop) (a : Pt) : Pt → List Ent → Prop := fun p l => WV B l (eval e env) (q2 B (inplaceOp op) (qAa3 B env at' r KF a) p)
noncomputable abbrev qAa1 (at' : Str) (op : Operator) (e : Expr) (r : List Stmt) (KF : Fl → List Ent → Prop) : Pt → List Ent → Prop := fun a l => WV1 B l (fun ov => getAttr ov at' true) a (qAa2 B env at' op e r KF a)
noncomputable abbrev qExpr (r : List Stmt) (KF : Fl → List Ent → Prop) : Pt → List Ent → Prop := fun p l => p = .none ∧ WF B l (execs r env) KF
noncomputable def Nx (r : List Stmt) (KF : Fl → List Ent → Prop) (f : Fl) (l : List Ent) : Prop := match f with
  | .next => WF B l (execs r env) KF
  | f => KF f l
noncomputable abbrev qIf (a b r : List Stmt) (KF : Fl → List Ent → Prop) : Bool → List Ent → Prop := fun t l => (t = true → WF B l (execs a env) (Nx B env r KF)) ∧ (t = false → WF B l (execs b env) (Nx B env r KF))
end
section
variable {G : Gr} {w : World} {n : Nat} {B : Bx G w n} {l l' : List Ent} {L : Addr} {loc loc' : Loc} {env : Env} {x : Str} {pos ps : Pos} {k : Nat} {sc : Scope} {cs : List (Str × Addr)} {p q : Pt} {s : Shared} {v : Value}
  {KV : Pt → List Ent → Prop} {KU : List Ent → Prop} {KB : Bool → List Ent → Prop} {KL : List Pt → List Ent → Prop} {KF : Fl → List Ent → Prop} {KN : Option Pt → List Ent → Prop}
theorem WV.use {m : Sem Value} {Q : Value → Shared → Prop} (h : WV B l m KV) (F : St G s l) (k : ∀ v p l' s', p.ok v → KV p l' → St G s' l' → Q v s') : wpAny (model pw w) B.A m Q NoE s :=
  wpAny_mono (h s F) (fun v s' z => z.elim fun p z => z.elim fun l' z => k v p l' s' z.1 z.2.2 z.2.1) fun _ _ z => z
theorem WU.use {m : Sem Unit} {Q : Unit → Shared → Prop} (h : WU B l m KU) (F : St G s l) (k : ∀ l' s', KU l' → St G s' l' → Q () s') : wpAny (model pw w) B.A m Q NoE s :=
  wpAny_mono (h s F) (fun _ s' z => z.elim fun l' z => k l' s' z.2 z.1) fun _ _ z => z
theorem WB.use {m : Sem Bool} {Q : Bool → Shared → Prop} (h : WB B l m KB) (F : St G s l) (k : ∀ b l' s', KB b l' → St G s' l' → Q b s') : wpAny (model pw w) B.A m Q NoE s :=
  wpAny_mono (h s F) (fun b s' z => z.elim fun l' z => k b l' s' z.2 z.1) fun _ _ z => z
theorem WL.use {m : Sem (List Value)} {Q : List Value → Shared → Prop} (h : WL B l m KL) (F : St G s l) (k : ∀ vs ps l' s', Oks ps vs → KL ps l' → St G s' l' → Q vs s') : wpAny (model pw w) B.A m Q NoE s :=
  wpAny_mono (h s F) (fun v s' z => z.elim fun p z => z.elim fun l' z => k v p l' s' z.1 z.2.2 z.2.1) fun _ _ z => z
theorem WF.use {m : Sem Flow} {Q : Flow → Shared → Prop} (h : WF B l m KF) (F : St G s l) (k : ∀ v p l' s', Fl.ok p v → KF p l' → St G s' l' → Q v s') : wpAny (model pw w) B.A m Q NoE s :=
  wpAny_mono (h s F) (fun v s' z => z.elim fun p z => z.elim fun l' z => k v p l' s' z.1 z.2.2 z.2.1) fun _ _ z => z
theorem vi (hp : p.ok v) (F : St G s l) (h : KV p l) : ∃ p l', p.ok v ∧ St G s l' ∧ KV p l' := ⟨p, l, hp, F, h⟩
theorem fi {f : Flow} {fl : Fl} (hp : fl.ok f) (F : St G s l) (h : KF fl l) : ∃ p l', Fl.ok p f ∧ St G s l' ∧ KF p l' := ⟨fl, l, hp, F, h⟩
theorem ui (F : St G s l) (h : KU l) : ∃ l', St G s l' ∧ KU l' := ⟨l, F, h⟩
theorem bi {b : Bool} (F : St G s l) (h : KB b l) : ∃ l', St G s l' ∧ KB b l' := ⟨l, F, h⟩
theorem WV.mono {m : Sem Value} {K' : Pt → List Ent → Prop} (h : WV B l m KV) (k : ∀ p l, KV p l → K' p l) : WV B l m K' := fun _ F => h.use F fun _ _ _ _ hp h F => vi hp F (k _ _ h)
theorem Kn.val {loc : Loc} {m : Str → Option Value} (hv : Lk x (some p) loc) (kn : ∀ x, Kn (loc.lookup x) (m x)) : ∃ v, m x = some v ∧ p.ok v := by
  have := kn x
  rw [hv.eq] at this
  exact this
theorem okx {sc : Scope} {k : NameKind} {loc : Loc} {j : Nat} (h : (okN sc x k && ix loc x j) = true) : okN sc x k = true ∧ ix loc x j = true := by simpa using h
theorem k_load {y : Str} (i j : Nat) (en : En env L sc cs) (hL : gE l i = some (L, nsP loc)) (hv : gN loc j = some (y, some p)) (hx : (okN sc x .local && ix loc x j) = true) (h : KV p l) : WV B l (loadName env x) KV := fun s F =>
  have o := OkN.mk' en (okx hx).1
  (F.ns (Has.of hL)).elim fun _ z => (Kn.val (Lk.of hv (okx hx).2) z.2).elim fun _ y => wpAny_loadName_local o.f o.k (en.l ▸ z.1) y.1 (vi y.2 F h)
theorem k_name {y : Str} (i j : Nat) (en : En env L sc cs) (hL : gE l i = some (L, nsP loc)) (hv : gN loc j = some (y, some p)) (hx : (okN sc x .local && ix loc x j) = true) (h : KV p l) : WV B l (eval (.Name x pos) env) KV := fun s F =>
  wpAny_Name (k_load i j en hL hv hx h s F) (OkN.mk' en (okx hx).1).d
theorem k_cell {c : Addr} (i : Nat) (en : En env L sc cs) (hi : cs.lookup x = some c) (hc : gE l i = some (c, cel (some p))) (hx : okN sc x .cell = true) (h : KV p l) : WV B l (eval (.Name x pos) env) KV := fun s F => by
  have o := OkN.mk' en hx
  obtain ⟨ob, e, v, d, hp⟩ := F.get (Has.of hc)
  exact wpAny_Name (wpAny_loadName_cell o.f o.k (en.c ▸ hi) ⟨ob, e, d⟩ (vi hp F h)) o.d
theorem k_free {c : Addr} (i : Nat) (en : En env L sc cs) (hi : cs.lookup x = some c) (hc : gE l i = some (c, cel (some p))) (hx : okN sc x .free = true) (h : KV p l) : WV B l (eval (.Name x pos) env) KV := fun s F => by
  have o := OkN.mk' en hx
  obtain ⟨ob, e, v, d, hp⟩ := F.get (Has.of hc)
  exact wpAny_Name (wpAny_loadName_free o.f o.k (en.c ▸ hi) ⟨ob, e, d⟩ (vi hp F h) o.c) o.d
theorem k_global {v : Value} (en : En env L sc cs) (g : nsIn (K w.params) mainGlobals x = some (some v)) (hp : p.ok v) (hx : okN sc x .globalImplicit = true) (h : KV p l) : WV B l (eval (.Name x pos) env) KV := fun s F => by
  obtain ⟨mg, g'⟩ := B.bs.g
  have o := OkN.mk' en hx
  exact Name_function_global o.f o.k (loadGlobal_global (env := env) (en.g ▸ g'.keeps F.base) (mg_of B.bs.X g' g) (vi hp F h)) o.d
theorem k_int {i : Int} (h : KV (.int i) l) : WV B l (eval (.Constant (.int i) k pos) env) KV := fun s F => wpAny_Constant_int (vi okI (F.tok _) h)
theorem k_str {y : Str} (z : List Nat) (hy : (y == S z) = true) (h : KV (.str z) l) : WV B l (eval (.Constant (.str y) k pos) env) KV := fun s F => by
  have : y = S z := by simpa using hy
  subst this
  exact wpAny_Constant_str (vi okS (F.tok _) h)
theorem k_none (h : KV .none l) : WV B l (eval (.Constant .none k pos) env) KV := fun _ F => wpAny_Constant_none (vi okNo F h)
theorem k_bool {b : Bool} (h : KV (.bool b) l) : WV B l (eval (.Constant (.bool b) k pos) env) KV := fun _ F => wpAny_Constant_bool (vi okB F h)
theorem k_store (i j : Nat) (en : En env L sc cs) (hE : gE l i = some (L, nsP loc)) (hx : (okN sc x .local && ix loc x j) = true) (h : KU (sE l i (L, nsP (sN loc j x p)))) : WU1 B l (storeName env x) p KU := fun v hv s F => by
  have o := OkN.mk' en (okx hx).1
  have hL : Rep L (nsP loc) (nsP (sN loc j x p)) l _ := Rep.of hE
  have hp : Put x p loc _ := Put.of (okx hx).2
  have ⟨_, n, kn⟩ := F.ns hL.has
  refine wpAny_storeName_local o.k (en.l ▸ n) (fun h' hn hs => ui ?_ h) (by rw [o.f]; rfl)
  exact F.upd hL (fun b o hb q => (hs.2 b (en.l ▸ hb)).trans q) (nsP_of (en.l ▸ hn) (hp.eq hv kn))
theorem k_storeC {c : Addr} {p₀ : Option Pt} (i : Nat) (en : En env L sc cs) (hi : cs.lookup x = some c) (hE : gE l i = some (c, cel p₀)) (hx : okN sc x .cell = true) (h : KU (sE l i (c, cel (some p)))) : WU1 B l (storeName env x) p KU := fun v hv s F => by
  have hc : Rep c (cel p₀) (cel (some p)) l _ := Rep.of hE
  have o := OkN.mk' en hx
  obtain ⟨o', e', x'⟩ := F.get hc.has
  have : ∃ v, o'.data = .cell v := by cases p₀ with
    | none => exact x'
    | some p => exact ⟨_, x'.choose_spec.1⟩
  obtain ⟨v₀, x'⟩ := this
  exact wpAny_storeName_cell o.f o.k (en.c ▸ hi) ⟨o', e', x'⟩ fun _ ⟨o, ho, hd⟩ hs => ui (F.upd hc (fun b o hb e => (hs.2 b hb).trans e) ⟨o, ho, v, hd, hv⟩) h
theorem k_BinOp {a b : Expr} {op : Operator} (h : WV B l (eval a env) (q1 B env b (binaryOp op) KV)) : WV B l (eval (.BinOp a op b pos) env) KV := fun s F =>
  wpAny_BinOp (h.use F fun v p l s hp h F => h.use F fun u q l s hq h F => h v u hp hq s F)
theorem k_Compare {a b : Expr} {op : CmpOp} (h : WV B l (eval a env) (q1 B env b (compareOp op) KV)) (hm : behindInMarks op b = false := by with_unfolding_all rfl) : WV B l (eval (.Compare a [op] [b] pos) env) KV := fun s F =>
  wpAny_Compare1 (h.use F fun v p l s hp h F => h.use F fun u q l s hq h F => h v u hp hq s F) hm
theorem k_UnaryOp {a : Expr} {op : UnaryOp} (h : WV B l (eval a env) (qf B (unaryOp op) KV)) : WV B l (eval (.UnaryOp op a pos) env) KV := fun s F =>
  wpAny_UnaryOp (h.use F fun v p l s hp h F => h v hp s F)
theorem k_Subscript {a b : Expr} (h : WV B l (eval a env) (q1 B env b (subscriptTail a b) KV)) : WV B l (eval (.Subscript a b pos) env) KV := fun s F =>
  Subscript_ (h.use F fun v p l s hp h F => h.use F fun u q l s hq h F => h v u hp hq s F)
theorem k_NamedExpr {y : Str} {a : Expr} (h : WV B l (eval a env) (qNamed B env y KV)) : WV B l (eval (.NamedExpr (.Name y ps) a pos) env) KV := fun s F =>
  wpAny_NamedExpr (h.use F fun v p l s hp h F => wpAny_assign_Name ((h v hp).use F fun l s h F => vi hp F h))
theorem ifk {P Q : Prop} {t : Bool} (h : (t = true → P) ∧ (t = false → Q)) : if t then P else Q := by cases t; exact h.2 rfl; exact h.1 rfl
theorem k_IfExp {c a b : Expr} (h : WB B l (isTrue c env (eval c env)) (qIfE B env a b KV)) : WV B l (eval (.IfExp c a b pos) env) KV := fun s F =>
  wpAny_IfExp (h.use F fun t l s h F => ifk ⟨fun e => h.1 e s F, fun e => h.2 e s F⟩)
theorem k_And2 {a b : Expr} (h : WV B l (eval a env) (qAnd2 B env b KV)) : WV B l (eval (.BoolOp .And [a, b] pos) env) KV := fun s F =>
  wpAny_And2 (h.use F fun v p l s hp h F => (h v hp).use F fun t l s h F => ifk ⟨fun e => h.1 e s F, fun e => vi hp F (h.2 e)⟩)
theorem k_Or2 {a b : Expr} (h : WV B l (eval a env) (qOr2 B env b KV)) : WV B l (eval (.BoolOp .Or [a, b] pos) env) KV := fun s F =>
  wpAny_Or2 (h.use F fun v p l s hp h F => (h v hp).use F fun t l s h F => ifk ⟨fun e => vi hp F (h.1 e), fun e => h.2 e s F⟩)
theorem k_items_nil (h : KL [] l) : WL B l (spliced (backTo pos (starEach [] env))) KL := fun s F => wpAny_items_nil ⟨_, _, .nil, F, h⟩
theorem k_items_cons {e : Expr} {r : List Expr} (h : WV B l (eval e env) (qItem B env pos r KL))
    (he : starEach (e :: r) env = (false, eval e env) :: starEach r env := by rfl) : WL B l (spliced (backTo pos (starEach (e :: r) env))) KL := fun s F =>
  wpAny_items_cons (h.use F fun v p l s hp h F => h.use F fun vs ps l s hps h F => ⟨_, _, .cons hp hps, F, h⟩) he
theorem sz {n : Nat} (h : n ≤ 1000000) : n ≤ sizeLine := Nat.le_trans h (by decide)
theorem k_List {es : List Expr} (h : WL B l (spliced (backTo pos (starEach es env))) (qList KV)) : WV B l (eval (.List es pos) env) KV := fun s F =>
  wpAny_List (h.use F fun vs ps l s hps h F => ⟨hps.len ▸ sz h.1, vi okR (F.push ⟨vs, _, hps, rfl⟩ rfl) (h.2 _)⟩)
theorem k_Tuple {es : List Expr} (h : WL B l (spliced (backTo pos (starEach es env))) (qTup KV)) : WV B l (eval (.Tuple es k pos) env) KV := fun s F =>
  wpAny_Tuple (h.use F fun vs ps l s hps h F => ⟨hps.len ▸ sz h.1, vi okR (F.push ⟨vs, _, hps, rfl⟩ rfl) (h.2 _)⟩)
theorem k_tCompare {a b : Expr} {op : CmpOp} {whole : Sem Value} (h : WV B l (eval a env) (q1 B env b (compareOp op) (qT B KB))) (hm : behindInMarks op b = false := by with_unfolding_all rfl) : WB B l (isTrue (.Compare a [op] [b] pos) env whole) KB := fun s F =>
  wpAny_isTrue_Compare1 (h.use F fun v p l s hp h F => h.use F fun u q l s hq h F => (h v u hp hq).use F fun c r l s hr h F => h c hr s F) hm
theorem k_tNot {a : Expr} {whole : Sem Value} (h : WB B l (isTrue a env (eval a env)) (qNot KB)) : WB B l (isTrue (.UnaryOp .Not a pos) env whole) KB := fun s F =>
  wpAny_isTrue_Not (h s F)
theorem k_tBoolOp {op : BoolOp} {es : List Expr} {whole : Sem Value} (h : WB B l (allTrue op es env) KB) : WB B l (isTrue (.BoolOp op es pos) env whole) KB := fun s F => wpAny_isTrue_BoolOp (h s F)
theorem k_tVal {e : Expr} (h : WV B l (eval e env) (qT B KB)) (he : isTrue e env (eval e env) = (do let v ← eval e env; standAt e.pos; holding [v] (truthy v)) := by rfl) : WB B l (isTrue e env (eval e env)) KB := fun s F =>
  wpAny_isTrue_value (h.use F fun v p l s hp h F => h v hp s F) he
theorem k_Or_nil (h : KB false l) : WB B l (allTrue .Or [] env) KB := fun s F => wpAny_allTrue_Or_nil ⟨_, F, h⟩
theorem k_Or {e : Expr} {r : List Expr} (h : WB B l (isTrue e env (eval e env)) (qOr B env r KB)) : WB B l (allTrue .Or (e :: r) env) KB := fun s F =>
  wpAny_allTrue_Or_cons (h.use F fun b l s h F => ifk ⟨fun e => bi F (h.1 e), fun e => h.2 e s F⟩)
theorem k_tb {b : Bool} (h : KB b l) : WB1 B l truthy (.bool b) KB := fun v hv s F => by cases hv; exact wpAny_truthy_bool (bi F h)
theorem k_tn (h : KB false l) : WB1 B l truthy .none KB := fun v hv s F => by cases hv; exact fun _ _ _ => bi F h
theorem k_not (h : WB1 B l truthy p (qNotV KV)) : WV1 B l (unaryOp .Not) p KV := fun v hv s F => not_value ((h v hv).use F fun b l s h F => vi okB F h)
noncomputable def Pt.isN : Pt → Bool
  | .none => true
  | _ => false
noncomputable def Pt.isA : Pt → Bool
  | .any => true
  | _ => false
theorem isNone_ok (h : p.ok v) (ha : p.isA = false) : (v == .none) = p.isN := by
  cases p <;> simp only [Pt.ok] at h
  case any => cases ha
  all_goals
    first
      | (obtain ⟨t, rfl⟩ := h; rfl)
      | (subst h; rfl)
theorem k_is (ha : p.isA = false) (h : KV (.bool p.isN) l) : WV2 B l (compareOp .Is) p .none KV := fun v u hv hu s F => by
  cases hu
  exact is_none (vi (by rw [isNone_ok hv ha]; exact okB) F h)
theorem k_isnot (ha : p.isA = false) (h : KV (.bool (!p.isN)) l) : WV2 B l (compareOp .IsNot) p .none KV := fun v u hv hu s F => by
  cases hu
  exact isNot_none (vi (by rw [isNone_ok hv ha]; exact okB) F h)
theorem nx_next {r : List Stmt} (h : WF B l (execs r env) KF) : Nx B env r KF .next l := h
theorem nx_brk {r : List Stmt} (h : KF .brk l) : Nx B env r KF .brk l := h
theorem nx_cont {r : List Stmt} (h : KF .cont l) : Nx B env r KF .cont l := h
theorem nx_ret {r : List Stmt} (h : KF (.ret p) l) : Nx B env r KF (.ret p) l := h
variable {r : List Stmt}
theorem WF.cons {st : Stmt} (h : WF B l (exec st env) (Nx B env r KF)) : WF B l (execs (st :: r) env) KF := fun s F =>
  wpAny_execs_cons (h.use F fun f fl l s hf h F => by
    cases fl with
    | next => cases hf; exact h s F
    | brk => cases hf; exact ⟨.brk, _, rfl, F, h⟩
    | cont => cases hf; exact ⟨.cont, _, rfl, F, h⟩
    | ret p => obtain ⟨v, rfl, hp⟩ := hf; exact ⟨.ret p, _, ⟨_, rfl, hp⟩, F, h⟩)
theorem WF.im {m : Sem Flow} (h : Im l l') (k : WF B l' m KF) : WF B l m KF := fun s F => k s (F.im h)
theorem k_nil (h : KF .next l) : WF B l (execs [] env) KF := fun s F => wpAny_execs_nil (fi (fl := .next) rfl F h)
theorem ni (F : St G s l) (h : WF B l (execs r env) KF) : ∃ p l', Fl.ok p .next ∧ St G s l' ∧ Nx B env r KF p l' := ⟨.next, l, rfl, F, h⟩
theorem k_Return {e : Expr} (h : WV B l (eval e env) (qRet KF)) : WF B l (execs (.Return (some e) pos :: r) env) KF := .cons fun s F =>
  wpAny_Return_some (h.use F fun v p l s hp h F => ⟨.ret p, l, ⟨v, rfl, hp⟩, F, h⟩)
theorem k_Assign {y : Str} {e : Expr} (h : WV B l (eval e env) (qStore B env y r KF)) (hs : swapsWith e (some (.Name y ps)) pos.line env = pure false := by rfl) : WF B l (execs (.Assign [.Name y ps] e pos :: r) env) KF := .cons fun s F =>
  wpAny_Assign_Name (h.use F fun v p l s hp h F => (h v hp).use F fun l s h F => ni F h) hs
theorem k_AssignSub {o i : Expr} {e : Expr} (h : WV B l (eval e env) (qSub1 B env o i r KF)) (hs : swapsWith e (some (.Subscript o i ps)) pos.line env = pure false := by rfl) : WF B l (execs (.Assign [.Subscript o i ps] e pos :: r) env) KF := .cons fun s F =>
  wpAny_Assign_Subscript (h.use F fun v p l s hp h F => h.use F fun ov a l s ha h F => h.use F fun iv b l s hb h F => (h ov iv v ha hb hp).use F fun l s h F => ni F h) hs
theorem k_Aug {y : Str} {op : Operator} {e : Expr} (h : WV B l (loadName env y) (q1 B env e (inplaceOp op) (qStore B env y r KF))) : WF B l (execs (.AugAssign (.Name y ps) op e pos :: r) env) KF := .cons fun s F =>
  wpAny_AugAssign_Name (h.use F fun v p l s hp h F => h.use F fun u q l s hq h F => (h v u hp hq).use F fun z r l s hr h F => (h z hr).use F fun l s h F => ni F h)
theorem k_AugSub {o i e : Expr} {op : Operator} (h : WV B l (eval o env) (qAs1 B env op i e r KF))
    (hi : ∀ ov iv new, augStore i ov iv new = (do holding [new, ov, iv] (setItem ov iv new); release [new, ov, iv] []; pure .next) := by intros; rfl) : WF B l (execs (.AugAssign (.Subscript o i ps) op e pos :: r) env) KF := .cons fun s F =>
  wpAny_AugAssign_SubscriptAny (h.use F fun ov a l s ha h F => h.use F fun iv b l s hb h F => (h ov iv ha hb).use F fun v p l s hp h F => h.use F fun u q l s hq h F => (h v u hp hq).use F fun z r l s hr h F => (h ov iv z ha hb hr).use F fun l s h F => ni F h) hi
theorem k_AugAttr {o e : Expr} {at' : Str} {op : Operator} (h : WV B l (eval o env) (qAa1 B env at' op e r KF)) : WF B l (execs (.AugAssign (.Attribute o at' ps) op e pos :: r) env) KF := .cons fun s F =>
  wpAny_AugAssign_AttributeAny (h.use F fun ov a l s ha h F => (h ov ha).use F fun v p l s hp h F => h.use F fun u q l s hq h F => (h v u hp hq).use F fun z r l s hr h F => (h ov z ha hr).use F fun l s h F => ni F h)
theorem k_If {c : Expr} {a b : List Stmt} (h : WB B l (isTrue c env (eval c env)) (qIf B env a b r KF)) : WF B l (execs (.If c a b pos :: r) env) KF := .cons fun s F =>
  wpAny_If (h.use F fun t l s h F => ifk ⟨fun e => h.1 e s F, fun e => h.2 e s F⟩)
theorem k_Break (h : KF .brk l) : WF B l (execs (.Break pos :: r) env) KF := .cons fun s F => wpAny_Break (fi (fl := .brk) rfl F h)
theorem k_Continue (h : KF .cont l) : WF B l (execs (.Continue pos :: r) env) KF := .cons fun s F => wpAny_Continue (fi (fl := .cont) rfl F h)
theorem k_Expr {e : Expr} (en : En env L sc cs) (hk : (sc.kind == .function) = true) (h : WV B l (eval e env) (qExpr B env r KF)) (hs : swapsWith e none pos.line env = pure false := by rfl) : WF B l (execs (.Expr e pos :: r) env) KF := .cons fun s F =>
  wpAny_Expr (h.use F fun v p l s hp h F => by obtain ⟨rfl, h⟩ := h; cases hp; exact ni F h) (by
    have : sc.kind = .function := by simpa using hk
    show (env.scope.kind == .module && _) = false
    rw [en.s, this]; rfl) hs
variable {a b : Int}
theorem op2 {f : Value → Value → Sem Value} {c : Int} (h : ∀ (A : Around) (s : Shared) (t u : Tok) (Q : Value → Shared → Prop), Q (.int c s.toks) { s with toks := s.toks + 1 } → wpAny (model pw w) A (f (.int a t) (.int b u)) Q NoE s) (k : KV (.int c) l) : WV2 B l f (.int a) (.int b) KV := fun _ _ e e' s F => by
  obtain ⟨t, rfl⟩ := e; obtain ⟨u, rfl⟩ := e'
  exact h _ s t u _ (vi okI (F.tok _) k)
theorem op2b {f : Value → Value → Sem Value} {c : Bool} (h : ∀ (A : Around) (s : Shared) (t u : Tok) (Q : Value → Shared → Prop), Q (.bool c) s → wpAny (model pw w) A (f (.int a t) (.int b u)) Q NoE s) (k : KV (.bool c) l) : WV2 B l f (.int a) (.int b) KV := fun _ _ e e' s F => by
  obtain ⟨t, rfl⟩ := e; obtain ⟨u, rfl⟩ := e'
  exact h _ s t u _ (vi okB F k)
theorem k_add (h : KV (.int (a + b)) l) : WV2 B l (binaryOp .Add) (.int a) (.int b) KV := op2 (fun _ _ _ _ _ q => add_int q) h
theorem k_sub (h : KV (.int (a - b)) l) : WV2 B l (binaryOp .Sub) (.int a) (.int b) KV := op2 (fun _ _ _ _ _ q => sub_int q) h
theorem k_mul (hm : IntMulOk a b) (h : KV (.int (a * b)) l) : WV2 B l (binaryOp .Mult) (.int a) (.int b) KV := op2 (fun _ _ _ _ _ q => mul_int q hm) h
theorem k_iadd (h : KV (.int (a + b)) l) : WV2 B l (inplaceOp .Add) (.int a) (.int b) KV := op2 (fun _ _ _ _ _ q => iadd_int q) h
theorem k_isub (h : KV (.int (a - b)) l) : WV2 B l (inplaceOp .Sub) (.int a) (.int b) KV := op2 (fun _ _ _ _ _ q => isub_int q) h
theorem k_mod (hb : 0 < b) (h : KV (.int (a % b)) l) : WV2 B l (binaryOp .Mod) (.int a) (.int b) KV := op2 (fun _ _ _ _ _ q => mod_int (by omega) (by rw [Int.fmod_eq_emod_of_nonneg _ (by omega)]; exact q)) h
theorem k_fdiv (hb : 0 < b) (hs : b < 1073741824) (h : KV (.int (a / b)) l) : WV2 B l (binaryOp .FloorDiv) (.int a) (.int b) KV := op2 (fun _ _ _ _ _ q => floordiv_int (by omega) (by rw [Int.fdiv_eq_ediv_of_nonneg _ (by omega)]; exact q) (.inl (PyProof.noPylong_small (by omega)))) h
theorem k_ifdiv (hb : 0 < b) (hs : b < 1073741824) (h : KV (.int (a / b)) l) : WV2 B l (inplaceOp .FloorDiv) (.int a) (.int b) KV := op2 (fun _ _ _ _ _ q => ifloordiv_int (by omega) (by rw [Int.fdiv_eq_ediv_of_nonneg _ (by omega)]; exact q) (.inl (PyProof.noPylong_small (by omega)))) h
theorem k_and (h : KV (.int (Builtin.bitAnd a b)) l) : WV2 B l (binaryOp .BitAnd) (.int a) (.int b) KV := op2 (fun _ _ _ _ _ q => and_int q) h
theorem k_pow (hb : 0 ≤ b) (hsz : (Builtin.Int.intBits a : Int) * b ≤ 2 ^ 27) (h : KV (.int (a ^ b.toNat)) l) : WV2 B l (binaryOp .Pow) (.int a) (.int b) KV := op2 (fun _ _ _ _ _ q => pow_int hb hsz q) h
theorem k_neg (h : KV (.int (-a)) l) : WV1 B l (unaryOp .USub) (.int a) KV := fun _ e s F => by obtain ⟨t, rfl⟩ := e; exact neg_int (vi okI (F.tok _) h)
theorem k_eq (h : KV (.bool (a == b)) l) : WV2 B l (compareOp .Eq) (.int a) (.int b) KV := op2b (fun _ _ _ _ _ q => eq_int q) h
theorem k_ne (h : KV (.bool (a != b)) l) : WV2 B l (compareOp .NotEq) (.int a) (.int b) KV := op2b (fun _ _ _ _ _ q => ne_int q) h
theorem k_lt (h : KV (.bool (decide (a < b))) l) : WV2 B l (compareOp .Lt) (.int a) (.int b) KV := op2b (fun _ _ _ _ _ q => lt_int q) h
variable {y z : List Nat}
theorem S_app (y z : List Nat) : S y ++ S z = S (y ++ z) := by show (⟨_ ++ _⟩ : Str) = _; simp
theorem S_beq (y z : List Nat) : (S y == S z) = (y == z) := by
  by_cases q : y = z
  · subst q; simp
  · have : S y ≠ S z := fun e => q (by simpa [S] using e)
    rw [beq_eq_false_iff_ne.mpr this, beq_eq_false_iff_ne.mpr q]
theorem k_sadd (hz : y.length + z.length ≤ 1000000) (h : KV (.str (y ++ z)) l) : WV2 B l (binaryOp .Add) (.str y) (.str z) KV := fun _ _ e e' s F => by
  obtain ⟨t, rfl⟩ := e; obtain ⟨u, rfl⟩ := e'
  exact add_str (fun t' tk => by rw [S_app]; exact vi okS (F.tok _) h) (by rw [S_len, S_len]; exact sz hz)
theorem k_siadd (hz : y.length + z.length ≤ 1000000) (h : KV (.str (y ++ z)) l) : WV2 B l (inplaceOp .Add) (.str y) (.str z) KV := fun _ _ e e' s F => by
  obtain ⟨t, rfl⟩ := e; obtain ⟨u, rfl⟩ := e'
  exact iadd_str (fun t' tk => by rw [S_app]; exact vi okS (F.tok _) h) (by rw [S_len, S_len]; exact sz hz)
theorem k_seq (h : KV (.bool (y == z)) l) : WV2 B l (compareOp .Eq) (.str y) (.str z) KV := fun _ _ e e' s F => by
  obtain ⟨t, rfl⟩ := e; obtain ⟨u, rfl⟩ := e'
  exact eq_str (by rw [S_beq]; exact vi okB F h)
theorem k_sne (h : KV (.bool (y != z)) l) : WV2 B l (compareOp .NotEq) (.str y) (.str z) KV := fun _ _ e e' s F => by
  obtain ⟨t, rfl⟩ := e; obtain ⟨u, rfl⟩ := e'
  exact ne_str (by rw [bne, S_beq]; exact vi okB F h)
end
section
variable {G : Gr} {w : World} {n m : Nat} {B : Bx G w n} {l l' : List Ent} {L : Addr} {loc loc' : Loc} {env : Env} {x : Str} {pos ap ps : Pos} {k : Nat} {sc : Scope} {cs : List (Str × Addr)} {p q : Pt}
  {KV : Pt → List Ent → Prop} {KU : List Ent → Prop} {KB : Bool → List Ent → Prop} {KL : List Pt → List Ent → Prop} {KF : Fl → List Ent → Prop} {KN : Option Pt → List Ent → Prop}
  {a b : Addr} {vs us : List Pt} {i : Int} {r : List Stmt}
noncomputable abbrev qMeth (B : Bx G w n) (pos : Pos) (id : String) (args : List Expr) (env : Env) (KV : Pt → List Ent → Prop) : Pt → List Ent → Prop := fun ov l => ∃ a, ov = .ref a ∧ (∃ i vs, gE l i = some (a, lst vs)) ∧ WV B l (callWith pos (.builtin id) [.ref a] (backTo pos (starEach args env)) []) KV
theorem k_lmeth {pl : Sem Bool} {o : Expr} {name : Str} {id : String} {args : List Expr} (slot : Slot "list" name id) (hty : typeOf (.builtin id) = pure (.type "method_descriptor"))
    (h : WV B l (eval o env) (qMeth B pos id args env KV))
    (he : eval (.Call (.Attribute o name ap) args [] pos) env = (do
      let ov ← eval o env
      standAt ap.atName
      let (f, first) ← holding [ov] (getMethod ov name pl)
      callWith pos f first (backTo pos (starEach args env)) []) := by rfl) :
    WV B l (eval (.Call (.Attribute o name ap) args [] pos) env) KV := fun s F =>
  MethodCall_ (h.use F fun ov p l s₁ hp h F => by
    obtain ⟨a, e, ⟨i, vs, hh⟩, z⟩ := h
    subst e; cases hp
    obtain ⟨us, n, _, q⟩ := F.lrec (Has.of hh)
    exact getMethod_list_of slot hty ⟨_, q, rfl, n, rfl⟩ ⟨_, q, rfl⟩ (z _ F)) he
theorem qm {id : String} {args : List Expr} (i : Nat) (hh : gE l i = some (a, lst vs)) (z : WV B l (callWith pos (.builtin id) [.ref a] (backTo pos (starEach args env)) []) KV) : qMeth B pos id args env KV (.ref a) l := ⟨a, rfl, ⟨i, vs, hh⟩, z⟩
theorem k_meth0 {id : String} (h : WC B l (.builtin id) [.ref a] KV) : WV B l (callWith pos (.builtin id) [.ref a] (backTo pos (starEach [] env)) []) KV := fun s F =>
  callWith_method0 (h _ (.cons okR .nil) s F)
noncomputable abbrev qC1 (B : Bx G w n) (f : Value) (a : Addr) (KV : Pt → List Ent → Prop) : Pt → List Ent → Prop := fun p l => WC B l f [.ref a, p] KV
theorem k_meth1 {id : String} {e : Expr} (h : WV B l (eval e env) (qC1 B (.builtin id) a KV)) (hs : starEach [e] env = [(false, eval e env)] := by rfl) : WV B l (callWith pos (.builtin id) [.ref a] (backTo pos (starEach [e] env)) []) KV := fun s F =>
  callWith_method1 (wpAny_items_cons (h.use F fun v p l s₂ hp h F => wpAny_items_nil (h _ (.cons okR (.cons hp .nil)) s₂ F)) hs) hs (by rfl)
theorem on1 {f : Value} {p : Pt} (h : ∀ v s, p.ok v → St G s l → wpAny (model pw w) B.A (call f [v]) (fun v s' => ∃ p l', p.ok v ∧ St G s' l' ∧ KV p l') NoE s) : WC B l f [p] KV := fun us hu s F => by
  cases hu with | cons hv hu =>
  cases hu
  exact h _ s hv F
theorem on2 {f : Value} {p q : Pt} (h : ∀ v u s, p.ok v → q.ok u → St G s l → wpAny (model pw w) B.A (call f [v, u]) (fun v s' => ∃ p l', p.ok v ∧ St G s' l' ∧ KV p l') NoE s) : WC B l f [p, q] KV := fun us hu s F => by
  cases hu with | cons hv hu =>
  cases hu with | cons hw hu =>
  cases hu
  exact h _ _ s hv hw F
theorem c_append (i : Nat) (hE : gE l i = some (a, lst vs)) (hz : vs.length ≤ 1000000) (h : KV .none (sE l i (a, lst (vs ++ [p])))) : WC B l (.builtin "list.append") [.ref a, p] KV := on2 fun v u s hv hp F => by
  cases hv
  obtain ⟨us, n, k, e⟩ := F.lrec (Has.of hE)
  exact wpAny_list_append_plain ⟨n, e⟩ (fun h' hl hb => vi okNo (F.upd (Rep.of hE) (fun b o hb' e => (hb.2 b hb').trans e) (let ⟨n, e⟩ := hl; ⟨_, e, _, n, k.snoc hp, by simp⟩)) h) (by have := k.len; rw [List.size_toArray, this]; exact sz hz)
theorem k_append {pl : Sem Bool} {o e : Expr} (h : WV B l (eval o env) (qMeth B pos "list.append" [e] env KV))
    (he : eval (.Call (.Attribute o "append" ap) [e] [] pos) env = (do
      let ov ← eval o env
      standAt ap.atName
      let (f, first) ← holding [ov] (getMethod ov "append" pl)
      callWith pos f first (backTo pos (starEach [e] env)) []) := by rfl) :
    WV B l (eval (.Call (.Attribute o "append" ap) [e] [] pos) env) KV := k_lmeth slot_list_append rfl h he
theorem c_clear (i : Nat) (hE : gE l i = some (a, lst vs)) (hz : vs.length ≤ 1000000) (h : KV .none (sE l i (a, lst []))) : WC B l (.builtin "list.clear") [.ref a] KV := on1 fun v s hv F => by
  cases hv
  obtain ⟨us, n, k, e⟩ := F.lrec (Has.of hE)
  exact call_meets PySem.F.slot_list_clear ⟨_, e, rfl⟩ PySem.F.entry_list_clear (PySem.F.args_list_clear_1 _) (AutoSeq1.list_clear_list_0 a us.toArray n (by have := k.len; rw [List.size_toArray, this]; exact sz hz)) ⟨e, vi okNo (F.mapSeq (fun _ => #[]) e .nil (Rep.of hE)) h⟩
theorem c_reverse (i : Nat) (hE : gE l i = some (a, lst vs)) (hz : vs.length ≤ 1000000) (h : KV .none (sE l i (a, lst vs.reverse))) : WC B l (.builtin "list.reverse") [.ref a] KV := on1 fun v s hv F => by
  cases hv
  obtain ⟨us, n, k, e⟩ := F.lrec (Has.of hE)
  exact call_meets PySem.F.slot_list_reverse ⟨_, e, rfl⟩ PySem.F.entry_list_reverse (PySem.F.args_list_reverse_1 _) (AutoSeq1.list_reverse_list_0 a us.toArray n (by have := k.len; rw [List.size_toArray, this]; exact sz hz)) ⟨e, vi okNo (F.mapSeq (fun x => x.reverse) e (by simpa using k.rev) (Rep.of hE)) h⟩
theorem c_extendT (i j : Nat) (hE : gE l i = some (a, lst vs)) (hb : gE l j = some (b, tup us)) (hz : vs.length + us.length ≤ 1000000) (h : KV .none (sE l i (a, lst (vs ++ us)))) : WC B l (.builtin "list.extend") [.ref a, .ref b] KV := on2 fun v u s hv hw F => by
  cases hv
  cases hw
  obtain ⟨ys, n, k, e⟩ := F.lrec (Has.of hE)
  obtain ⟨zs, n2, k2, e2⟩ := F.trec (Has.of hb)
  have z1 := k.len
  have z2 := k2.len
  have zz : sizeLine = 16777216 := rfl
  refine call_meets PySem.F.slot_list_extend ⟨_, e, rfl⟩ PySem.F.entry_list_extend (PySem.F.args_list_extend_2 _ _) (AutoSeq1.list_extend_list_tuple_0 a ys.toArray n b zs.toArray n2 ?_ ?_ ?_) ⟨e, e2, vi okNo (F.mapSeq (fun x => x ++ zs.toArray) e (by simpa using k.app k2) (Rep.of hE)) h⟩
  · have : Builtin.List.listTooLong (ys.toArray.size + zs.toArray.size) = false := by
      simp only [List.size_toArray]
      unfold Builtin.List.listTooLong
      simp; omega
    rw [this]; simp
  · simp only [List.size_toArray]; omega
  · simp only [List.size_toArray]; omega
theorem c_pop0 (i : Nat) (hE : gE l i = some (a, lst (p :: vs))) (hz : vs.length + 1 ≤ 1000000) (h : KV p (sE l i (a, lst vs))) : WC B l (.builtin "list.pop") [.ref a, .int 0] KV := on2 fun v u s hv hw F => by
  cases hv
  obtain ⟨t, rfl⟩ := hw
  obtain ⟨us, n, k, e⟩ := F.lrec (Has.of hE)
  cases k with | cons hp k =>
  rename_i v xs
  have z1 := k.len
  refine call_meets PySem.F.slot_list_pop ⟨_, e, rfl⟩ PySem.F.entry_list_pop (PySem.F.args_list_pop_2 _ _) (MeetsSeq.list_pop_at a (v :: xs).toArray n 0 t 0 v (by decide) (by simp [seqIndex?]) (by simp) (by have : sizeLine = 16777216 := rfl; simp; omega)) ⟨e, vi hp (F.mapSeq (fun xs => xs.eraseIdxIfInBounds 0) e ?_ (Rep.of hE)) h⟩
  have : ((v :: xs).toArray.eraseIdxIfInBounds 0).toList = xs := by simp [Array.eraseIdxIfInBounds]
  rw [this]; exact k
theorem isL {s : Shared} (F : St G s l) (h : Has a (lst vs) l) : ∃ us, Oks vs us ∧ s.heap.IsList a us.toArray := let ⟨us, n, k, e⟩ := F.lrec h; ⟨us, k, _, e, rfl, n, rfl⟩
theorem isT {s : Shared} (F : St G s l) (h : Has a (tup vs) l) : ∃ us, Oks vs us ∧ IsTup s.heap a us.toArray := let ⟨us, n, k, e⟩ := F.trec h; ⟨us, k, _, e, rfl, n, rfl⟩
noncomputable def BL (G : Gr) (a : Addr) (vs : List Pt) : Prop := ∃ us, Oks vs us ∧ G.h₀.IsList a us.toArray
noncomputable def IsL (G : Gr) (l : List Ent) (a : Addr) (vs : List Pt) : Prop := ∀ s, St G s l → ∃ us, Oks vs us ∧ s.heap.IsList a us.toArray
theorem IsL.ofL (i : Nat) (h : gE l i = some (a, lst vs)) : IsL G l a vs := fun _ F => isL F (Has.of h)
theorem IsL.ofI (i : Nat) (h : gE l i = some (a, ils vs)) : IsL G l a vs := fun _ F => F.irec (Has.of h)
theorem IsL.ofB (h : BL G a vs) : IsL G l a vs := fun _ F => let ⟨us, k, o, e, z⟩ := h; ⟨us, k, o, F.base _ _ e, z⟩
theorem c_len (hL : IsL G l a vs) (hz : vs.length ≤ 1000000) (h : KV (.int vs.length) l) : WC B l (.builtin "len") [.ref a] KV := on1 fun v s hv F => by
  cases hv
  obtain ⟨us, k, e⟩ := hL _ F
  have z := k.len
  exact call_len_list e (by simp only [List.size_toArray]; omega) (vi (p := .int us.length) ⟨_, by rw [List.size_toArray]⟩ (F.tok _) (by rw [z]; exact h))
theorem c_lenT (i : Nat) (hL : gE l i = some (a, tup vs)) (hz : vs.length ≤ 1000000) (h : KV (.int vs.length) l) : WC B l (.builtin "len") [.ref a] KV := on1 fun v s hv F => by
  cases hv
  obtain ⟨us, k, e⟩ := isT F (Has.of hL)
  have z := k.len
  exact len_tuple e (by simp only [List.size_toArray]; omega) (vi (p := .int us.length) ⟨_, by rw [List.size_toArray]⟩ (F.tok _) (by rw [z]; exact h))
theorem k_tlist (i : Nat) (hL : gE l i = some (a, lst vs)) (hz : vs.length ≤ 1000000) (h : KB (!vs.isEmpty) l) : WB1 B l truthy (.ref a) KB := fun v hv s F => by
  cases hv
  obtain ⟨us, k, e⟩ := isL F (Has.of hL)
  have z := k.len
  refine wpAny_truthy_list e (by simp only [List.size_toArray]; omega) (bi (F.tok _) ?_)
  have : us.toArray.isEmpty = vs.isEmpty := by
    cases vs with
    | nil => cases k; rfl
    | cons => cases k; simp
  rw [this]; exact h
theorem r_tail {A : Around} {E : Value → Shared → Prop} {s : Shared} {Q : Value → Shared → Prop} {value slice : Expr} {o i : Value} {T id : String} (hl : typeLookup (.type T) "__getitem__" = pure (some (.builtin id))) (hT : s.TypeIs o T) (h : wpAny (model pw w) A (getItem o i) Q E s) :
    wpAny (model pw w) A (subscriptTail value slice o i) Q E s := by
  unfold subscriptTail
  refine wpAny_bind ?_
  rw [getitemInPython_of_ne hT.not_modules]
  refine wpAny_bind (wpAny_specialOf hT hl ?_)
  have fin : wpAny (model pw w) A (subscripted slice false o i) (fun r s₃ => wpAny (model pw w) A (letTemporaryGo value o r >>= fun _ => pure r) Q E s₃) E s := by
    have h' : wpAny (model pw w) A (getItem o i) (fun r s₃ => wpAny (model pw w) A (letTemporaryGo value o r >>= fun _ => pure r) Q E s₃) E s :=
      wpAny_mono h (fun r s₃ h₃ => wpAny_bind (wpAny_letTemporaryGo (wpAny_pure h₃))) fun _ _ x => x
    unfold subscripted
    split
    · exact wpAny_operating h'
    · rename_i q; exact absurd q (by decide)
    · exact wpAny_operating h'
  first
    | exact wpAny_pure (wpAny_bind fin)
    | exact wpAny_bind (wpAny_pure (wpAny_bind fin))
    | exact wpAny_bind fin
theorem k_get {value slice : Expr} (hL : IsL G l a vs) (h0 : 0 ≤ i) (hf : i < 2 ^ 63) (hv : vs[i.toNat]? = some p) (h : KV p l) : WV2 B l (subscriptTail value slice) (.ref a) (.int i) KV := fun v u hv' hu s F => by
  cases hv'
  obtain ⟨t, rfl⟩ := hu
  obtain ⟨us, k, e⟩ := hL _ F
  obtain ⟨v, e', hp⟩ := k.get hv
  exact r_tail slot_list_getitem.lookup e.typeIs (wpAny_getItem_list e h0 hf (by simpa using e') (vi hp F h))
theorem k_get' (hL : IsL G l a vs) (h0 : 0 ≤ i) (hf : i < 2 ^ 63) (hv : vs[i.toNat]? = some p) (h : KV p l) : WV2 B l getItem (.ref a) (.int i) KV := fun v u hv' hu s F => by
  cases hv'
  obtain ⟨t, rfl⟩ := hu
  obtain ⟨us, k, e⟩ := hL _ F
  obtain ⟨v, e', hp⟩ := k.get hv
  exact wpAny_getItem_list e h0 hf (by simpa using e') (vi hp F h)
theorem k_getT {value slice : Expr} (j : Nat) (hL : gE l j = some (a, tup vs)) (h0 : 0 ≤ i) (hf : i < 2 ^ 63) (hv : vs[i.toNat]? = some p) (h : KV p l) : WV2 B l (subscriptTail value slice) (.ref a) (.int i) KV := fun v u hv' hu s F => by
  cases hv'
  obtain ⟨t, rfl⟩ := hu
  obtain ⟨us, k, e⟩ := isT F (Has.of hL)
  obtain ⟨v, e', hp⟩ := k.get hv
  have hn : i.toNat < us.length := (List.getElem?_eq_some_iff.mp e').1
  exact r_tail PySem.F.slot_tuple_getitem.lookup e.typeIs (getItem_tuple e (by omega) hf (j := i.toNat) (by simp [seqIndex?]; omega) (by simpa using e') (vi hp F h))
theorem k_setI (j : Nat) (hE : gE l j = some (a, ils vs)) (h0 : 0 ≤ i) (hf : i < 2 ^ 63) (hn : i < vs.length) (h : KU (sE l j (a, ils (vs.set i.toNat p)))) : WU3 B l setItem (.ref a) (.int i) p KU := fun v u x hv hu hx s F => by
  cases hv
  obtain ⟨t, rfl⟩ := hu
  obtain ⟨us, k, e⟩ := F.irec (Has.of hE)
  have z := k.len
  refine wpAny_setItem_list e h0 hf (by rw [List.size_toArray, z]; exact hn) fun h' hl hs => ?_
  obtain ⟨o, e, c, n, q⟩ := hl
  exact ui (F.upd (P' := ils (vs.set i.toNat p)) (Rep.of hE) (fun b o hb e => (hs.2 b hb).trans e) ⟨o, e, c, us.set i.toNat x, n, k.set hx _, by rw [q]; simp⟩) h
structure Src (B : Bx G w n) (it : Addr) (m : Nat) (P : Nat → Obj → Prop) (item : Nat → Pt → Prop) (J : Nat → List Ent → Prop) : Prop where
  next : ∀ k l (KN : Option Pt → List Ent → Prop), k < m → J k l → (∀ p, item k p → KN (some p) ((it, P (k + 1)) :: l)) → WN B ((it, P k) :: l) (pyNext (.ref it)) KN
  stop : ∀ l (KN : Option Pt → List Ent → Prop), J m l → KN none l → WN B ((it, P m) :: l) (pyNext (.ref it)) KN
noncomputable abbrev qIt {α : Type} (P : Obj → Prop) (Φ : α → Prop) (Lg : α → List Ent) : Pt → List Ent → Prop := fun q l => ∃ i x, q = .ref i ∧ Φ x ∧ Im l ((i, P) :: Lg x)
theorem wn_some {K : Pt → List Ent → Prop} {m : Sem (Option Value)} {Q : Option Value → Shared → Prop} {E : Value → Shared → Prop} {s : Shared} (h : WN B l m (fun o l => ∃ p, o = some p ∧ K p l)) (F : St G s l) (hq : ∀ v p l' s', p.ok v → K p l' → St G s' l' → Q (some v) s') : wpAny (model pw w) B.A m Q E s :=
  wpAny_mono (h s F) (fun o s' z => by
    obtain ⟨l', F', z⟩ := z
    rcases z with ⟨_, p, e, _⟩ | ⟨v, p, rfl, hv, p', e, k⟩
    · cases e
    · cases e; exact hq v p l' s' hv k F') fun _ _ z => z.elim
theorem wn_none {K : List Ent → Prop} {m : Sem (Option Value)} {Q : Option Value → Shared → Prop} {E : Value → Shared → Prop} {s : Shared} (h : WN B l m (fun o l => o = none ∧ K l)) (F : St G s l) (hq : ∀ l' s', K l' → St G s' l' → Q none s') : wpAny (model pw w) B.A m Q E s :=
  wpAny_mono (h s F) (fun o s' z => by
    obtain ⟨l', F', z⟩ := z
    rcases z with ⟨rfl, _, k⟩ | ⟨v, p, _, _, e, _⟩
    · exact hq l' s' k F'
    · cases e) fun _ _ z => z.elim
noncomputable def FlC (N Bk : List Ent → Prop) (R : Pt → List Ent → Prop) : Fl → List Ent → Prop
  | .next, l => N l
  | .cont, l => N l
  | .brk, l => Bk l
  | .ret p, l => R p l
theorem flc_out {α : Type} {Φ : α → Prop} {Lg : α → List Ent} {Bk : List Ent → Prop} {R : Pt → List Ent → Prop} {fl : Fl} {f : Flow} {l : List Ent} (hf : fl.ok f) (z : FlC (fun l => ∃ x', Φ x' ∧ Im l (Lg x')) Bk R fl l) :
    ((f = .next ∨ f = .cont) ∧ ∃ x', Φ x' ∧ Im l (Lg x')) ∨ (f = .brk ∧ Bk l) ∨ ∃ v p, f = .ret v ∧ p.ok v ∧ R p l := by
  cases fl with
  | next => exact .inl ⟨.inl hf, z⟩
  | cont => exact .inl ⟨.inr hf, z⟩
  | brk => exact .inr (.inl ⟨hf, z⟩)
  | ret p => obtain ⟨v, h1, hp⟩ := hf; exact .inr (.inr ⟨v, p, h1, hp, z⟩)
inductive qForG (B : Bx G w n) (env : Env) (target : Expr) (body orelse r : List Stmt) (KF : Fl → List Ent → Prop) (q : Pt) (l : List Ent) : Prop
  | mk (it : Addr) (α : Type) (m : Nat) (Φ : Nat → α → Prop) (Lg : Nat → α → List Ent) (x₀ : α) (hq : q = .ref it) (h0 : Φ 0 x₀) (hl : Im l (Lg 0 x₀))
    (turn : ∀ k x (KF' : Fl → List Ent → Prop), k < m → Φ k x → (∀ l x', Φ (k + 1) x' → Im l (Lg (k + 1) x') → KF' .next l ∧ KF' .cont l) → (∀ l, WF B l (execs r env) KF → KF' .brk l) → (∀ p l, KF (.ret p) l → KF' (.ret p) l) →
      WN B (Lg k x) (pyNext (.ref it)) (fun o l => ∃ p, o = some p ∧ WU1 B l (letOwnedTupleGo target (.ref it)) p (fun l => WU1 B l (assign target env) p (qRest B env body KF'))))
    (fin : ∀ x, Φ m x → WN B (Lg m x) (pyNext (.ref it)) (fun o l => o = none ∧ WF B l (execs orelse env) (Nx B env r KF)))
theorem k_forG {target iter : Expr} {body orelse : List Stmt} (h : WV B l (eval iter env) (qf B pyIter (qForG B env target body orelse r KF)))
    (hs : ∀ x, foldedSetIterable iter env x = pure x := by intro _; rfl) :
    WF B l (execs (.For target iter body orelse pos :: r) env) KF := .cons fun s F => by
  refine wpAny_For (h.use F fun x p l s₁ hp h F => (h x hp).use F fun it q l s₂ hq h F => ?_) hs
  obtain ⟨i, α, m, Φ, Lg, x₀, e, hJ, e', turn, fin⟩ := h
  subst e; cases hq
  refine codeAny_forLoop_any (fun j s => ∃ k x, j = m - k ∧ k ≤ m ∧ Φ k x ∧ St G s (Lg k x)) (fun j s hI => ?_) m ⟨0, x₀, rfl, Nat.zero_le _, hJ, F.im e'⟩
  obtain ⟨k, x, rfl, hk, hJ, F⟩ := hI
  by_cases q : k < m
  · have hd : m - (k + 1) < m - k := Nat.sub_lt_sub_left q (Nat.lt_succ_self k)
    refine wn_some (turn k x (FlC (fun l => ∃ x', Φ (k + 1) x' ∧ Im l (Lg (k + 1) x')) (fun l => WF B l (execs r env) KF) (fun v l => KF (.ret v) l)) q hJ (fun l l' h1 h2 => ⟨⟨l', h1, h2⟩, ⟨l', h1, h2⟩⟩) (fun _ h => h) (fun _ _ h => h)) F fun v p l₁ s₁ hv t F => ?_
    refine wpAny_mono (t v hv s₁ F) (fun _ s₂ z => ?_) fun _ _ z => z.elim
    obtain ⟨l₂, F₂, z⟩ := z
    refine wpAny_mono (z v hv s₂ F₂) (fun _ s₃ z => ?_) fun _ _ z => z.elim
    obtain ⟨l₃, F₃, z⟩ := z
    refine wpAny_mono (z s₃ F₃) (fun f s₄ z => ?_) fun _ _ z => z.elim
    obtain ⟨fl, l₄, hf, F, z⟩ := z
    rcases flc_out hf z with ⟨rfl | rfl, x', hJ', F'⟩ | ⟨rfl, z⟩ | ⟨v, p, rfl, hp, z⟩
    · exact ⟨_, hd, k + 1, x', rfl, q, hJ', F.im F'⟩
    · exact ⟨_, hd, k + 1, x', rfl, q, hJ', F.im F'⟩
    · exact ⟨.next, _, rfl, F, z⟩
    · exact ⟨.ret p, _, ⟨_, rfl, hp⟩, F, z⟩
  · obtain rfl : k = m := Nat.le_antisymm hk (Nat.le_of_not_lt q)
    exact wn_none (fin x hJ) F fun l₁ s₁ z F1 => wpAny_mono (z s₁ F1) (fun f s z => z) fun _ _ z => z.elim
inductive qLoop (B : Bx G w n) (env : Env) (target : Expr) (body orelse r : List Stmt) (KF : Fl → List Ent → Prop) (q : Pt) (l : List Ent) : Prop
  | mk (α : Type) (m : Nat) (P : Nat → Obj → Prop) (item : Nat → Pt → Prop) (Φ : Nat → α → Prop) (Lg : Nat → α → List Ent) (h0 : qIt (P 0) (Φ 0) (Lg 0) q l)
    (src : ∀ it, Src B it m P item fun k l => ∃ x, Φ k x ∧ l = Lg k x)
    (turn : ∀ it k x p (KF' : Fl → List Ent → Prop), k < m → Φ k x → item k p → (∀ l x', Φ (k + 1) x' → Im l ((it, P (k + 1)) :: Lg (k + 1) x') → KF' .next l ∧ KF' .cont l) → (∀ l, WF B l (execs r env) KF → KF' .brk l) → (∀ p l, KF (.ret p) l → KF' (.ret p) l) →
      WU1 B ((it, P (k + 1)) :: Lg k x) (assign target env) p (qRest B env body KF'))
    (fin : ∀ x, Φ m x → WF B (Lg m x) (execs orelse env) (Nx B env r KF))
theorem loop_forG {target : Expr} {body orelse : List Stmt} (ht : ∀ it v, letOwnedTupleGo target it v = pure ()) {q : Pt} (h : qLoop B env target body orelse r KF q l) : qForG B env target body orelse r KF q l := by
  obtain ⟨α, m, P, item, Φ, Lg, ⟨i, x₀, e, hJ, e'⟩, src, turn, fin⟩ := h
  exact ⟨i, α, m, Φ, fun k x => (i, P k) :: Lg k x, x₀, e, hJ, e', fun k x KF' hk hx h1 h2 h3 => (src i).next k (Lg k x) _ hk ⟨x, hx, rfl⟩ fun p hp => ⟨p, rfl, fun v hv s F => by
    rw [ht]
    exact wpAny_pure (ui F (turn i k x p KF' hk hx hp h1 h2 h3))⟩, fun x hx => (src i).stop (Lg m x) _ ⟨x, hx, rfl⟩ ⟨rfl, fin x hx⟩⟩
theorem k_forQ {target iter : Expr} {body orelse : List Stmt} (h : WV B l (eval iter env) (qf B pyIter (qLoop B env target body orelse r KF)))
    (hs : ∀ x, foldedSetIterable iter env x = pure x := by intro _; rfl) (ht : ∀ it v, letOwnedTupleGo target it v = pure () := by intro _ _; rfl) :
    WF B l (execs (.For target iter body orelse pos :: r) env) KF :=
  k_forG (h.mono fun _ _ h v hv => (h v hv).mono fun _ _ h => loop_forG ht h) hs
theorem k_forS {α : Type} {target iter : Expr} {body orelse : List Stmt} (m : Nat) (P : Nat → Obj → Prop) (item : Nat → Pt → Prop) (Φ : Nat → α → Prop) (Lg : Nat → α → List Ent)
    (h : WV B l (eval iter env) (qf B pyIter (qIt (P 0) (Φ 0) (Lg 0))))
    (src : ∀ it, Src B it m P item fun k l => ∃ x, Φ k x ∧ l = Lg k x)
    (turn : ∀ it k x p (KF' : Fl → List Ent → Prop), k < m → Φ k x → item k p → (∀ l x', Φ (k + 1) x' → Im l ((it, P (k + 1)) :: Lg (k + 1) x') → KF' .next l ∧ KF' .cont l) → (∀ l, WF B l (execs r env) KF → KF' .brk l) → (∀ p l, KF (.ret p) l → KF' (.ret p) l) →
      WU1 B ((it, P (k + 1)) :: Lg k x) (assign target env) p (qRest B env body KF'))
    (fin : ∀ x, Φ m x → WF B (Lg m x) (execs orelse env) (Nx B env r KF))
    (hs : ∀ x, foldedSetIterable iter env x = pure x := by intro _; rfl) (ht : ∀ it v, letOwnedTupleGo target it v = pure () := by intro _ _; rfl) :
    WF B l (execs (.For target iter body orelse pos :: r) env) KF :=
  k_forQ (h.mono fun _ _ h v hv => (h v hv).mono fun _ _ h => ⟨α, m, P, item, Φ, Lg, h, src, turn, fin⟩) hs ht
theorem src_range {it : Addr} {p₀ : Int} {J : Nat → List Ent → Prop} : Src B it m (fun k => ri (p₀ + k) ((m : Int) - k) 1) (fun k p => p = .int (p₀ + k)) J where
  next k l KN hk hJ h s F := by
    obtain ⟨_, e, rfl⟩ := F.get .head
    refine wpAny_pyNext_range_item e (by omega) fun h' ho hs => ⟨_, F.upd (P' := ri (p₀ + ((k + 1 : Nat) : Int)) ((m : Int) - ((k + 1 : Nat) : Int)) 1) .head (fun b o hb e => (hs.2 b hb).trans e) ⟨_, ho, ?_⟩, .inr ⟨_, _, rfl, okI, h _ rfl⟩⟩
    have e1 : p₀ + (k : Int) + 1 = p₀ + ((k + 1 : Nat) : Int) := by omega
    have e2 : (m : Int) - k - 1 = (m : Int) - ((k + 1 : Nat) : Int) := by omega
    rw [e1, e2]; rfl
  stop l KN hJ h s F := by
    obtain ⟨_, e, rfl⟩ := F.get .head
    exact wpAny_pyNext_range_end B.hA.hh e (by omega) fun h' hs => ⟨_, F.gone .head (fun b o hb e => hs _ _ hb e), .inl ⟨rfl, h⟩⟩
theorem src_range0 {it : Addr} {J : Nat → List Ent → Prop} : Src B it m (fun k => ri (k : Int) ((m : Int) - k) 1) (fun k p => p = .int k) J := by
  have := src_range (B := B) (it := it) (m := m) (p₀ := 0) (J := J)
  simpa only [Int.zero_add] using this
theorem src_list {it a : Addr} {vs : List Pt} {J : Nat → List Ent → Prop} (hJ : ∀ k l, J k l → Has a (lst vs) l) : Src B it vs.length (fun k => li a k) (fun k p => vs[k]? = some p) J where
  next k l KN hk j h s F := by
    obtain ⟨_, e, x⟩ := F.get .head
    obtain ⟨us, ok, el⟩ := isL F (.tail (hJ _ _ j))
    obtain ⟨v, e', hp⟩ := ok.get (List.getElem?_eq_getElem hk)
    exact wpAny_pyNext_list_item ⟨_, e, x⟩ el (by simpa using e') fun h' ⟨o, ho, hx⟩ hs => ⟨_, F.upd (P' := li a (k + 1)) .head (fun b o hb e => (hs.2 b hb).trans e) ⟨o, ho, hx⟩, .inr ⟨_, _, rfl, hp, h _ (List.getElem?_eq_getElem hk)⟩⟩
  stop l KN j h s F := by
    obtain ⟨_, e, x⟩ := F.get .head
    obtain ⟨us, ok, el⟩ := isL F (.tail (hJ _ _ j))
    exact wpAny_pyNext_list_end B.hA.hh ⟨_, e, x⟩ el (by simp [ok.len]) fun h' hs => ⟨_, F.gone .head (fun b o hb e => hs _ _ hb e), .inl ⟨rfl, h⟩⟩
theorem src_tup {it a : Addr} {vs : List Pt} {J : Nat → List Ent → Prop} (hJ : ∀ k l, J k l → Has a (tup vs) l) : Src B it vs.length (fun k => ti a k) (fun k p => vs[k]? = some p) J where
  next k l KN hk j h s F := by
    obtain ⟨_, e, x⟩ := F.get .head
    obtain ⟨us, ok, el⟩ := isT F (.tail (hJ _ _ j))
    obtain ⟨v, e', hp⟩ := ok.get (List.getElem?_eq_getElem hk)
    exact wpAny_pyNext_tuple_item ⟨_, e, x⟩ el (by simpa using e') fun h' ⟨o, ho, hx⟩ hs => ⟨_, F.upd (P' := ti a (k + 1)) .head (fun b o hb e => (hs.2 b hb).trans e) ⟨o, ho, hx⟩, .inr ⟨_, _, rfl, hp, h _ (List.getElem?_eq_getElem hk)⟩⟩
  stop l KN j h s F := by
    obtain ⟨_, e, x⟩ := F.get .head
    obtain ⟨us, ok, el⟩ := isT F (.tail (hJ _ _ j))
    exact wpAny_pyNext_tuple_end B.hA.hh ⟨_, e, x⟩ el (by simp [ok.len]) fun h' hs => ⟨_, F.gone .head (fun b o hb e => hs _ _ hb e), .inl ⟨rfl, h⟩⟩
theorem k_iterL (j : Nat) (hL : gE l j = some (a, lst vs)) (h : ∀ it, KV (.ref it) ((it, li a 0) :: l)) : WV1 B l pyIter (.ref a) KV := fun v hv s F => by
  cases hv
  obtain ⟨us, ok, el⟩ := isL F (Has.of hL)
  exact wpAny_pyIter_list el (vi okR (F.push (P := li a 0) ⟨rfl, rfl⟩ rfl) (h _))
theorem k_iterT (j : Nat) (hL : gE l j = some (a, tup vs)) (h : ∀ it, KV (.ref it) ((it, ti a 0) :: l)) : WV1 B l pyIter (.ref a) KV := fun v hv s F => by
  cases hv
  obtain ⟨us, ok, el⟩ := isT F (Has.of hL)
  exact wpAny_pyIter_tuple el (vi okR (F.push (P := ti a 0) ⟨rfl, rfl⟩ rfl) (h _))
theorem c_range {j : Int} (h : ∀ a, KV (.ref a) ((a, rng 0 j 1) :: l)) : WC B l (.type "range") [.int j] KV := on1 fun v s hv F => by
  obtain ⟨t, rfl⟩ := hv
  exact call_range_1 (vi okR (F.push (P := rng 0 j 1) ⟨_, _, _, rfl⟩ rfl) (h _))
theorem c_range2 {i j : Int} (h : ∀ a, KV (.ref a) ((a, rng i j 1) :: l)) : WC B l (.type "range") [.int i, .int j] KV := on2 fun v u s hv hw F => by
  obtain ⟨t, rfl⟩ := hv
  obtain ⟨t, rfl⟩ := hw
  exact call_range_2 (vi okR (F.push (P := rng i j 1) ⟨_, _, _, rfl⟩ rfl) (h _))
theorem k_iterR {j : Int} (hL : Has a (rng i j 1) l) (hm : j - i = m) (hm' : m < 1000000) (hi : -1000000 < i ∧ i < 1000000) (h : ∀ it, KV (.ref it) ((it, ri i m 1) :: l)) : WV1 B l pyIter (.ref a) KV := fun v hv s F => by
  cases hv
  obtain ⟨_, e, t, u, v, rfl⟩ := F.get hL
  refine wpAny_pyIter_range e (small_one (by omega) (by omega) (by omega) (by omega)) ⟨_, _, okR, F.push (P := ri i m 1) ?_ rfl, h _⟩
  have : Builtin.Range.rangeSize i j 1 = m := by
    unfold Builtin.Range.rangeSize
    split
    · split <;> omega
    · omega
  rw [this]; rfl
noncomputable abbrev qC (B : Bx G w n) (f : Value) (KV : Pt → List Ent → Prop) : List Pt → List Ent → Prop := fun ps l => WC B l f ps KV
theorem k_args {f : Value} {e : Expr} {rest : List Expr} {A : Around} {E : Value → Shared → Prop} {s : Shared} {Q : Args → Shared → Prop} (h : wpAny (model pw w) A (spliced (backTo pos (starEach (e :: rest) env))) (fun vs s' => Q ⟨vs, []⟩ s') E s) (he : starEach (e :: rest) env = (false, eval e env) :: starEach rest env := by rfl) :
    wpAny (model pw w) A (evalArgs f true (backTo pos (starEach (e :: rest) env)) []) Q E s := by
  rw [he] at h ⊢
  exact evalArgs_plain h
theorem k_gname {v : Value} {x : Str} {s : Shared} {Q : Value → Shared → Prop} (en : En env L sc cs) (g : nsIn (K w.params) mainGlobals x = some (some v)) (hx : okN sc x .globalImplicit = true) (F : St G s l) (h : ∀ s', St G s' l → Q v s') : wpAny (model pw w) B.A (eval (.Name x pos) env) Q NoE s := by
  obtain ⟨mg, g'⟩ := B.bs.g
  have o := OkN.mk' en hx
  exact Name_function_global o.f o.k (loadGlobal_global (env := env) (en.g ▸ g'.keeps F.base) (mg_of B.bs.X g' g) (h _ F)) o.d
theorem k_bname {v : Value} {x : Str} {s : Shared} {Q : Value → Shared → Prop} (en : En env L sc cs) (g : nsIn (K w.params) mainGlobals x = some none) (hv : bootBuiltins x = some v) (hx : okN sc x .globalImplicit = true) (F : St G s l) (h : ∀ s', St G s' l → Q v s') : wpAny (model pw w) B.A (eval (.Name x pos) env) Q NoE s := by
  obtain ⟨mg, g'⟩ := B.bs.g
  obtain ⟨mb, b', bi⟩ := B.bs.b
  have o := OkN.mk' en hx
  exact Name_function_global o.f o.k (loadGlobal_builtin (env := env) (en.g ▸ g'.keeps F.base) (mg_none_of B.bs.X g' g) (en.b ▸ b'.keeps F.base) ((bi x (by simpa using o.n)).trans hv) (h _ F)) o.d
theorem k_call {f : Addr} {fd : FuncData} {x : Str} {p : Pos} {e : Expr} {rest : List Expr} (en : En env L sc cs) (g : nsIn (K w.params) mainGlobals x = some (some (.ref f))) (hx : okN sc x .globalImplicit = true)
    (ho : (K w.params).lookup f = some { cls := .type "function", data := .func fd })
    (h : WL B l (spliced (backTo pos (starEach (e :: rest) env))) (qC B (.ref f) KV))
    (he : starEach (e :: rest) env = (false, eval e env) :: starEach rest env := by rfl) :
    WV B l (eval (.Call (.Name x p) (e :: rest) [] pos) env) KV := fun s F =>
  Call_Name rfl (k_gname en g hx F fun s F => callWith_function (fd := fd) (k_args (h.use F fun vs ps l s hps h F => ⟨⟨F.base _ _ (B.bs.X _ _ ho), rfl⟩, h vs hps s F⟩) he))
theorem k_bcall {id : String} {x : Str} {p : Pos} {e : Expr} {rest : List Expr} (en : En env L sc cs) (g : nsIn (K w.params) mainGlobals x = some none) (hv : bootBuiltins x = some (.builtin id)) (hx : okN sc x .globalImplicit = true)
    (h : WL B l (spliced (backTo pos (starEach (e :: rest) env))) (qC B (.builtin id) KV))
    (he : starEach (e :: rest) env = (false, eval e env) :: starEach rest env := by rfl) (hplain : (backTo pos (starEach rest env)).any (·.1) = false := by rfl) :
    WV B l (eval (.Call (.Name x p) (e :: rest) [] pos) env) KV := fun s F =>
  Call_Name rfl (k_bname en g hv hx F fun s F => callWith_builtin1 (h.use F fun vs ps l s hps h F => h vs hps s F) he hplain)
theorem k_tcall {T : String} {x : Str} {p : Pos} {e : Expr} {rest : List Expr} (en : En env L sc cs) (g : nsIn (K w.params) mainGlobals x = some none) (hv : bootBuiltins x = some (.type T)) (hx : okN sc x .globalImplicit = true)
    (h : WL B l (spliced (backTo pos (starEach (e :: rest) env))) (qC B (.type T) KV))
    (he : starEach (e :: rest) env = (false, eval e env) :: starEach rest env := by rfl) (hplain : (backTo pos (starEach rest env)).any (·.1) = false := by rfl) :
    WV B l (eval (.Call (.Name x p) (e :: rest) [] pos) env) KV := fun s F =>
  Call_Name rfl (k_bname en g hv hx F fun s F => callWith_type1 (h.use F fun vs ps l s hps h F => h vs hps s F) he hplain)
theorem k_asgN {y : Str} (h : WU1 B l (storeName env y) p KU) : WU1 B l (assign (.Name y ps) env) p KU := fun v hv s F => wpAny_assign_Name (h v hv s F)
noncomputable def Bx.le {m : Nat} (B : Bx G w n) (h : m ≤ n) : Bx G w m := ⟨B.A, B.bs, B.hA.le h⟩
noncomputable abbrev qInt {α : Type} (m : Nat) (Φ : α → Prop) (Lg : α → List Ent) : Pt → List Ent → Prop := fun p l => p = .int m ∧ m < 1000000 ∧ ∃ x, Φ x ∧ Im l (Lg x)
theorem qInt.mk {α : Type} {m : Nat} {Φ : α → Prop} {Lg : α → List Ent} (x : α) (hm : m < 1000000) (hx : Φ x) (h : Im l (Lg x)) : qInt m Φ Lg (.int m) l := ⟨rfl, hm, x, hx, h⟩
theorem k_forR {α : Type} {target : Expr} {p : Pos} {e : Expr} {body orelse : List Stmt} (m : Nat) (Φ : Nat → α → Prop) (Lg : Nat → α → List Ent) (en : En env L sc cs) (hx : okN sc "range" .globalImplicit = true)
    (h : WV B l (eval e env) (qInt m (Φ 0) (Lg 0)))
    (turn : ∀ it k x (KF' : Fl → List Ent → Prop), k < m → Φ k x → (∀ l x', Φ (k + 1) x' → Im l ((it, ri ((k + 1 : Nat) : Int) ((m : Int) - ((k + 1 : Nat) : Int)) 1) :: Lg (k + 1) x') → KF' .next l ∧ KF' .cont l) → (∀ l, WF B l (execs r env) KF → KF' .brk l) → (∀ p l, KF (.ret p) l → KF' (.ret p) l) →
      WU1 B ((it, ri ((k + 1 : Nat) : Int) ((m : Int) - ((k + 1 : Nat) : Int)) 1) :: Lg k x) (assign target env) (.int k) (qRest B env body KF'))
    (fin : ∀ x, Φ m x → WF B (Lg m x) (execs orelse env) (Nx B env r KF))
    (g : nsIn (K w.params) mainGlobals "range" = some none := by kernel_rfl)
    (he : starEach [e] env = [(false, eval e env)] := by rfl)
    (hs : ∀ x, foldedSetIterable (.Call (.Name "range" p) [e] [] ap) env x = pure x := by intro _; rfl) (ht : ∀ it v, letOwnedTupleGo target it v = pure () := by intro _ _; rfl) :
    WF B l (execs (.For target (.Call (.Name "range" p) [e] [] ap) body orelse pos :: r) env) KF := by
  refine k_forS m (fun k => ri (k : Int) ((m : Int) - k) 1) (fun k p => p = .int k) Φ Lg ?_ (fun it => src_range0) (fun it k x p KF' hk hJ e => by subst e; exact turn it k x KF' hk hJ) fin hs ht
  refine k_tcall (T := "range") en g (by kernel_rfl) hx (k_items_cons (h.mono fun p l h => ?_) he) he
  obtain ⟨rfl, hm, x, hJ, hI⟩ := h
  refine k_items_nil (c_range fun a v hv s F => (k_iterR (m := m) (KV := fun q l'' => ∃ it, q = .ref it ∧ l'' = (it, ri 0 m 1) :: (a, rng 0 m 1) :: l) .head (by omega) hm (by omega) (fun it => ⟨it, rfl, rfl⟩) v hv).use F fun v q l'' s hq h F => ?_)
  obtain ⟨it, e1, e2⟩ := h
  subst e1; subst e2
  exact vi hq F.swap.drop ⟨it, x, rfl, hJ, by simpa using Im.keep .head hI⟩
inductive Binds : List (Str × Value) → Loc → Prop
  | nil : Binds [] []
  | cons {x v p b loc} : p.ok v → Binds b loc → Binds ((x, v) :: b) ((x, some p) :: loc)
theorem Binds.kn {b : List (Str × Value)} {loc : Loc} (h : Binds b loc) (y : Str) : Kn (loc.lookup y) (b.lookup y) := by
  induction h with
  | nil => rfl
  | @cons x v p b loc hp _ ih =>
    cases e : y == x with
    | true => simp only [List.lookup_cons, e]; exact ⟨v, rfl, hp⟩
    | false => simp only [List.lookup_cons, e]; exact ih
noncomputable def WK (B : Bx G w n) (l : List Ent) (f : Value) (ps : List Pt) (K : Pt → List Ent → Prop) : Prop := ∀ vs, Oks ps vs → ∀ s, St G s l → codeAny (model pw w) B.A (.call f ⟨vs, []⟩) (fun r s' => match r with | .ok (.ret v) => ∃ p l', p.ok v ∧ St G s' l' ∧ K p l' | _ => False) s
theorem WK.wc {B : Bx G w n} {f : Value} {ps : List Pt} (h : WK B l f ps KV) : WC B l f ps KV := fun vs hv s F => wpAny_call (codeAny_mono (h vs hv s F) fun r s' z => by
  rcases r with e | (v | _ | _ | _) <;> first | exact z | exact z.elim)
theorem k_enterK {f : Addr} {fd : FuncData} {ps : List Pt} {names : List Str} {loc : Loc} {body : List Stmt} {B : Bx G w (n + 1)} (ho : (K w.params).lookup f = some { cls := .type "function", data := .func fd })
    (hcd : codeIn (K w.params) fd.code fd.qualname = true) (hbody : fd.body = .stmts body) (hg : fd.globals = mainGlobals) (hb : fd.builtins = builtinsNs) (hcl : fd.closure = [])
    (hok : ((fd.scope.names.all fun x => x.2 != .cell) && (names.all fun x => fd.scope.names.lookup x == some .local) && (!fd.scope.isCoroutine) && (!fd.scope.isGenerator) && (fd.scope.kind == .function)) = true)
    (hbind : ∀ vs, Oks ps vs → ∃ b, bindArgs fd ⟨vs, []⟩ = pure b.reverse ∧ b.map (·.1) = names ∧ Binds b loc)
    (h : ∀ L env (B' : Bx G w n) (KF : Fl → List Ent → Prop), En env L fd.scope [] → (∀ p l l', Im l l' → KV p l' → KF (.ret p) l) → (∀ l l', Im l l' → KV .none l' → KF .next l) → WF B' ((L, nsP loc) :: l) (execs body env) KF) :
    WK B l (.ref f) ps KV := fun vs hvs s F => by
  simp only [Bool.and_eq_true, Bool.not_eq_true', beq_iff_eq] at hok
  obtain ⟨⟨⟨⟨hcell, hloc⟩, h1⟩, h2⟩, h3⟩ := hok
  have ho' := B.bs.X _ _ ho
  obtain ⟨binds, hbi, hna, hbs⟩ := hbind vs hvs
  refine (codeAny_call_def (binds := binds.reverse) B.hA.room (F.base _ _ ho') rfl (B.bs.lim.keeps F.base) ((codeRec_of B.bs.X hcd).keeps F.base) hbody (.of_eq hbi) ?_ ?_ (fun h₀ hns hk => ?_) h1 h2 h3)
  · intro y hy e
    have := List.all_eq_true.mp hcell y hy
    rw [e] at this; exact absurd this (by decide)
  · intro y hy
    have := List.all_eq_true.mp hloc y.1 (by rw [← hna]; exact List.mem_map.mpr ⟨y, List.mem_reverse.mp hy, rfl⟩)
    simpa using this
  · have nw : s.heap.get? s.heap.objs.size = none := by
      cases q : s.heap.get? s.heap.objs.size with
      | none => rfl
      | some o => exact absurd (Heap.lt_size q) (Nat.lt_irrefl _)
    refine wpAny_mono (h _ _ ⟨B.A.deeper _, B.bs, B.hA.deeper _⟩ (fun f l => ∃ l', Im l l' ∧ match f with | .ret p => KV p l' | _ => KV .none l') ?_ (fun p l l' h1 h2 => ⟨l', h1, h2⟩) (fun l l' h1 h2 => ⟨l', h1, h2⟩) _ (F.cons nw hk (nsP_of hns fun y => by rw [List.reverse_reverse]; exact hbs.kn y))) (fun fl s' ⟨f, l, hf, F, l', hl', z⟩ => ?_) fun _ _ z => z.elim
    · exact ⟨rfl, rfl, hcl, hg, hb⟩
    · cases f with
      | next => cases hf; exact ⟨_, _, okNo, F.im hl', z⟩
      | brk => cases hf; exact ⟨_, _, okNo, F.im hl', z⟩
      | cont => cases hf; exact ⟨_, _, okNo, F.im hl', z⟩
      | ret p => obtain ⟨v, rfl, hp⟩ := hf; exact ⟨_, _, hp, F.im hl', z⟩
theorem k_enter {f : Addr} {fd : FuncData} {ps : List Pt} {names : List Str} {loc : Loc} {body : List Stmt} {B : Bx G w (n + 1)} (ho : (K w.params).lookup f = some { cls := .type "function", data := .func fd })
    (hcd : codeIn (K w.params) fd.code fd.qualname = true) (hbody : fd.body = .stmts body) (hg : fd.globals = mainGlobals) (hb : fd.builtins = builtinsNs) (hcl : fd.closure = [])
    (hok : ((fd.scope.names.all fun x => x.2 != .cell) && (names.all fun x => fd.scope.names.lookup x == some .local) && (!fd.scope.isCoroutine) && (!fd.scope.isGenerator) && (fd.scope.kind == .function)) = true)
    (hbind : ∀ vs, Oks ps vs → ∃ b, bindArgs fd ⟨vs, []⟩ = pure b.reverse ∧ b.map (·.1) = names ∧ Binds b loc)
    (h : ∀ L env (B' : Bx G w n) (KF : Fl → List Ent → Prop), En env L fd.scope [] → (∀ p l l', Im l l' → KV p l' → KF (.ret p) l) → (∀ l l', Im l l' → KV .none l' → KF .next l) → WF B' ((L, nsP loc) :: l) (execs body env) KF) :
    WC B l (.ref f) ps KV := (k_enterK ho hcd hbody hg hb hcl hok hbind h).wc
end
noncomputable def cutS (y : List Nat) (lo hi : Option Nat) : List Nat := (y.drop (lo.getD 0)).take (hi.getD y.length - lo.getD 0)
theorem indices_clip (lo hi : Option Nat) (n : Nat) : strSliceIndices (lo.map Int.ofNat) (hi.map Int.ofNat) 1 n = strSliceIndices (some ((min (lo.getD 0) n : Nat) : Int)) (some ((min (hi.getD n) n : Nat) : Int)) 1 n := by
  have e2 : ∀ a : Nat, ¬ ((a : Int) < 0) := fun a => Int.not_lt.mpr (Int.natCast_nonneg a)
  have e1 : ∀ a : Nat, max (0 : Int) (min (a : Int) n) = ((min a n : Nat) : Int) := fun a => by
    rcases Nat.le_total a n with q | q
    · rw [Int.min_eq_left (Int.ofNat_le.mpr q), Nat.min_eq_left q]; exact Int.max_eq_right (Int.natCast_nonneg _)
    · rw [Int.min_eq_right (Int.ofNat_le.mpr q), Nat.min_eq_right q]; exact Int.max_eq_right (Int.natCast_nonneg _)
  have e3 : ∀ a : Nat, max (0 : Int) (min ((min a n : Nat) : Int) n) = ((min a n : Nat) : Int) := fun a => by
    rw [e1, Nat.min_eq_left (Nat.min_le_right ..)]
  have e4 : max (0 : Int) (min 0 n) = 0 := by have := e1 0; rw [Nat.zero_min] at this; exact this
  cases lo <;> cases hi <;> simp [strSliceIndices, e1, e2, e3, e4]
theorem clip_le {i j : Option Nat} {n : Nat} (h : ∀ k, j = some k → i.getD 0 ≤ k) : min (i.getD 0) n ≤ min (j.getD n) n := by
  cases j with
  | none => exact Nat.le_min.mpr ⟨Nat.min_le_right .., Nat.min_le_right ..⟩
  | some k => exact Nat.le_min.mpr ⟨Nat.le_trans (Nat.min_le_left ..) (h k rfl), Nat.min_le_right ..⟩
theorem cut_eq (y : List Nat) (lo hi : Option Nat) (h : ∀ j, hi = some j → lo.getD 0 ≤ j) :
    (strSliceIndices (lo.map Int.ofNat) (hi.map Int.ofNat) 1 y.length).filterMap ((S y).cps[·]?) = cutS y lo hi := by
  have hl : (S y).length = y.length := S_len y
  rw [indices_clip]
  have := StrLaws.sliced_plain (S y) (a := min (lo.getD 0) y.length) (b := min (hi.getD y.length) y.length) (clip_le h) (by rw [hl]; exact Nat.min_le_right ..)
  rw [hl] at this
  rw [this]
  show (y.toArray.toList.drop _).take _ = _
  unfold cutS
  simp only
  rcases Nat.le_total (lo.getD 0) y.length with q | q
  · rw [Nat.min_eq_left q]
    rcases Nat.le_total (hi.getD y.length) y.length with q2 | q2
    · rw [Nat.min_eq_left q2]
    · rw [Nat.min_eq_right q2, List.take_of_length_le (by rw [List.length_drop]; exact Nat.le_refl _), List.take_of_length_le (by rw [List.length_drop]; exact Nat.sub_le_sub_right q2 _)]
  · rw [Nat.min_eq_right q, List.drop_of_length_le q, List.drop_of_length_le (Nat.le_refl _)]
    simp
noncomputable def Part : Pt → Option Nat → Prop
  | .none, i => i = none
  | .int a, i => ∃ k : Nat, a = k ∧ i = some k
  | _, _ => False
theorem Part.val {p : Pt} {i : Option Nat} {v : Value} (h : Part p i) (hv : p.ok v) : ∃ l : Option (Int × Tok), v = partValue l ∧ l.map (·.1) = i.map Int.ofNat := by
  cases p <;> first | exact h.elim | skip
  case int a =>
    obtain ⟨k, rfl, rfl⟩ := h
    obtain ⟨t, rfl⟩ := hv
    exact ⟨some (_, t), rfl, rfl⟩
  case none => subst h; cases hv; exact ⟨none, rfl, rfl⟩
section
variable {G : Gr} {w : World} {n m : Nat} {B : Bx G w n} {l l' : List Ent} {L : Addr} {loc loc' : Loc} {env : Env} {x : Str} {pos ap ps : Pos} {k : Nat} {sc : Scope} {cs : List (Str × Addr)} {p q : Pt}
  {KV : Pt → List Ent → Prop} {KU : List Ent → Prop} {KB : Bool → List Ent → Prop} {KL : List Pt → List Ent → Prop} {KF : Fl → List Ent → Prop} {KN : Option Pt → List Ent → Prop}
  {a b : Addr} {vs us : List Pt} {i : Int} {r : List Stmt} {y z : List Nat}
noncomputable abbrev qSl3 (KV : Pt → List Ent → Prop) (p a : Pt) : Pt → List Ent → Prop := fun b l => ∃ y i j, p = .str y ∧ Part a i ∧ Part b j ∧ (∀ k, j = some k → i.getD 0 ≤ k) ∧ y.length ≤ 1000000 ∧ KV (.str (cutS y i j)) l
noncomputable abbrev qSl2 (B : Bx G w n) (env : Env) (u : Option Expr) (KV : Pt → List Ent → Prop) (p : Pt) : Pt → List Ent → Prop := fun a l => WV B l (evalPart u env) (qSl3 KV p a)
noncomputable abbrev qSl1 (B : Bx G w n) (env : Env) (lo u : Option Expr) (KV : Pt → List Ent → Prop) : Pt → List Ent → Prop := fun p l => WV B l (evalPart lo env) (qSl2 B env u KV p)
theorem k_some {e : Expr} (h : WV B l (eval e env) KV) : WV B l (evalPart (some e) env) KV := h
theorem k_absent (h : KV .none l) : WV B l (evalPart none env) KV := fun s F => wpAny_evalPart_none (vi okNo F h)
theorem clip_full {a b n : Nat} (h : min b n - min a n = n) : min (b - a) (n - a) = n := by
  rcases Nat.eq_zero_or_pos n with rfl | hn
  · rw [Nat.zero_sub, Nat.min_zero]
  · have h1 : min b n - min a n ≤ n - min a n := Nat.sub_le_sub_right (Nat.min_le_right ..) _
    have h2 : min a n = 0 := Nat.eq_zero_of_not_pos fun q => Nat.not_le_of_lt (Nat.sub_lt hn q) (Nat.le_trans (Nat.le_of_eq h.symm) h1)
    have h3 : a = 0 := (Nat.le_total a n).elim (fun q => (Nat.min_eq_left q).symm.trans h2) fun q => absurd ((Nat.min_eq_right q).symm.trans h2) (Nat.ne_of_gt hn)
    subst h3
    rw [Nat.zero_min, Nat.sub_zero] at h
    exact h
theorem k_sslice {value : Expr} {lower upper : Option Expr} (h : WV B l (eval value env) (qSl1 B env lower upper KV)) : WV B l (eval (.Subscript value (.Slice lower upper none ps) pos) env) KV := fun s F =>
  Subscript_ (h.use F fun v p l s hp h F => wpAny_Slice (h.use F fun vl a l s ha h F => h.use F fun vu b l s hb h F => by
    rw [evalPart_none]
    refine wpAny_pure ?_
    obtain ⟨y, i, j, rfl, hi, hj, hij, hz, h⟩ := h
    obtain ⟨t, rfl⟩ := hp
    obtain ⟨li, e1, e1'⟩ := hi.val ha
    obtain ⟨lj, e2, e2'⟩ := hj.val hb
    subst e1; subst e2
    refine r_tail PySem.F.slot_str_getitem.lookup (typeIs_str _ _ _) (wpAny_getItem_str_slice (l := li) (u := lj) (st := none) ⟨_, Heap.get?_push_size _ rfl, rfl, rfl⟩ rfl ?_)
    have F' := F.keep (h' := s.heap.push { cls := .type "slice", data := .fields #[partValue li, partValue lj, .none] }) (t := s.toks) fun _ _ e => Heap.get?_push_of_some _ e
    have ec := cut_eq y i j hij
    unfold sliceMade slicePicked
    simp only [e1', e2', Option.map_none, Option.getD_none, S_len]
    split
    · rename_i q
      have hq : (strSliceIndices (i.map Int.ofNat) (j.map Int.ofNat) 1 y.length).length = y.length := by simpa using q
      have : cutS y i j = y := by
        have hs : (cutS y i j).Sublist y := by unfold cutS; exact (List.take_sublist ..).trans (List.drop_sublist ..)
        refine hs.eq_of_length ?_
        rw [indices_clip] at hq
        rw [StrLaws.strSliceIndices_plain (clip_le hij) (Nat.min_le_right ..)] at hq
        unfold cutS
        rw [List.length_take, List.length_drop]
        refine clip_full ?_
        simp at hq
        exact hq
      rw [this] at h
      exact vi (p := .str y) ⟨t, rfl⟩ F' h
    · rw [ec]
      exact ⟨by have : (cutS y i j).length ≤ y.length := by unfold cutS; simp; omega
                rw [S_len]; exact sz (Nat.le_trans this hz), vi okS (F'.tok _) h⟩))
theorem k_sitem {value slice : Expr} {c : Nat} (h0 : 0 ≤ i) (hf : i < 2 ^ 63) (hv : y[i.toNat]? = some c) (h : KV (.str [c]) l) : WV2 B l (subscriptTail value slice) (.str y) (.int i) KV := fun v u hv' hu s F => by
  obtain ⟨t, rfl⟩ := hv'
  obtain ⟨t, rfl⟩ := hu
  have hn : i.toNat < y.length := (List.getElem?_eq_some_iff.mp hv).1
  refine r_tail PySem.F.slot_str_getitem.lookup (typeIs_str _ _ _) (getItem_str (c := c) (by simp; omega) ?_ (vi (p := .str [c]) ⟨_, rfl⟩ (F.tok _) h))
  have : seqIndex? i (S y).length = some i.toNat := by rw [S_len]; simp [seqIndex?]; omega
  rw [this]
  simpa using hv
theorem c_slen (hz : y.length ≤ 1000000) (h : KV (.int y.length) l) : WC B l (.builtin "len") [.str y] KV := on1 fun v s hv F => by
  obtain ⟨t, rfl⟩ := hv
  exact len_str (by rw [S_len]; omega) (vi (p := .int y.length) ⟨_, by rw [S_len]⟩ (F.tok _) h)
theorem k_sin {c : Nat} (h : KV (.bool (decide (c ∈ y))) l) : WV2 B l (compareOp .In) (.str [c]) (.str y) KV := fun v u hv hu s F => by
  obtain ⟨t, rfl⟩ := hv
  obtain ⟨t, rfl⟩ := hu
  exact in_str (vi (by rw [show S [c] = ⟨#[c]⟩ from rfl, StrLaws.found_one]; exact okB) F h)
theorem k_snin {c : Nat} (h : KV (.bool (!decide (c ∈ y))) l) : WV2 B l (compareOp .NotIn) (.str [c]) (.str y) KV := fun v u hv hu s F => by
  obtain ⟨t, rfl⟩ := hv
  obtain ⟨t, rfl⟩ := hu
  exact notIn_str (vi (by rw [show S [c] = ⟨#[c]⟩ from rfl, StrLaws.found_one]; exact okB) F h)
theorem k_lnin {ys : List (List Nat)} (hL : IsL G l a (ys.map Pt.str)) (h : KV (.bool (!(ys.any (· == y)))) l) : WV2 B l (compareOp .NotIn) (.str y) (.ref a) KV := fun v u hv hu s F => by
  obtain ⟨t, rfl⟩ := hv
  cases hu
  obtain ⟨us, k, e⟩ := hL _ F
  refine notin_list_strs e k.toStrs (vi ?_ F h)
  have : (ys.map S).any (· == S y) = ys.any (· == y) := by simp [List.any_map, Function.comp_def, S_beq]
  rw [this]; exact okB
theorem c_str {d : Nat} (hd : d < 10) (h : KV (.str [48 + d]) l) : WC B l (.type "str") [.int d] KV := on1 fun v s hv F => by
  obtain ⟨t, rfl⟩ := hv
  have hl : (d : Int).natAbs.log2 < 1920 := (by decide +kernel : ∀ d < 10, ((d : Nat) : Int).natAbs.log2 < 1920) d hd
  have hs : Str.ofString (toString (d : Int)) = S [48 + d] := (by decide +kernel : ∀ d < 10, Str.ofString (toString ((d : Nat) : Int)) = S [48 + d]) d hd
  exact PySem.P.str_of_int hl (by rw [hs]; exact vi okS (F.tok _) h)
theorem glue_fold : ∀ (ys : List (List Nat)) (acc : List Nat), (ys.map S).foldl (fun (acc : Array Nat) (p : Str) => acc ++ (S []).cps ++ p.cps) acc.toArray = (acc ++ ys.flatten).toArray
  | [], acc => by simp
  | y :: r, acc => by
    simp only [List.map_cons, List.foldl_cons]
    rw [show acc.toArray ++ (S []).cps ++ (S y).cps = (acc ++ y).toArray by simp, glue_fold r (acc ++ y)]
    simp
theorem join_nil_S (ys : List (List Nat)) : Txt.join (S []) (ys.map S) = S ys.flatten := by
  cases ys with
  | nil => rfl
  | cons y r =>
    show (⟨(r.map S).foldl _ _⟩ : Str) = _
    exact congrArg Str.mk ((glue_fold r y).trans (by simp))
theorem c_join {ys : List (List Nat)} (hL : IsL G l a (ys.map Pt.str)) (hz : ys.flatten.length ≤ 1000000) (h : KV (.str ys.flatten) l) : WC B l (.builtin "str.join") [.str [], .ref a] KV := on2 fun v u s hv hu F => by
  obtain ⟨t, rfl⟩ := hv
  cases hu
  obtain ⟨us, k, e⟩ := hL _ F
  refine join_list (x := S []) e (by simpa using k.toStrs) (by
    have : ((ys.map S).map (·.length)).sum = ys.flatten.length := by simp [List.map_map, Function.comp_def, S_len, List.length_flatten]
    rw [this]
    have : (S []).length = 0 := S_len []
    rw [this]; omega) fun t' k => by rw [join_nil_S]; exact vi okS (F.tok _) h
end
inductive OksO : List (Option Pt) → List (Option Value) → Prop
  | nil : OksO [] []
  | no {ps vs} : OksO ps vs → OksO (none :: ps) (none :: vs)
  | so {p v ps vs} : p.ok v → OksO ps vs → OksO (some p :: ps) (some v :: vs)
theorem OksO.len {ps : List (Option Pt)} {vs : List (Option Value)} (h : OksO ps vs) : vs.length = ps.length := by
  induction h with
  | nil => rfl
  | no _ ih => simp [ih]
  | so _ _ ih => simp [ih]
theorem OksO.get {ps : List (Option Pt)} {vs : List (Option Value)} (h : OksO ps vs) : ∀ {j : Nat} {p : Pt}, ps[j]? = some (some p) → ∃ v, vs[j]? = some (some v) ∧ p.ok v := by
  induction h with
  | nil => intro j p e; simp at e
  | no _ ih =>
    intro j p e
    cases j with
    | zero => simp at e
    | succ j => simpa using ih (by simpa using e)
  | so hp _ ih =>
    intro j p e
    cases j with
    | zero => simp at e; subst e; exact ⟨_, rfl, hp⟩
    | succ j => simpa using ih (by simpa using e)
theorem OksO.set {ps : List (Option Pt)} {vs : List (Option Value)} {p : Pt} {v : Value} (k : p.ok v) (h : OksO ps vs) : ∀ (j : Nat), OksO (ps.set j (some p)) (vs.set j (some v)) := by
  induction h with
  | nil => intro j; exact .nil
  | no h ih =>
    intro j
    cases j with
    | zero => exact .so k h
    | succ j => exact .no (ih j)
  | so hp h ih =>
    intro j
    cases j with
    | zero => exact .so k h
    | succ j => exact .so hp (ih j)
theorem OksO.pad {ps : List (Option Pt)} {vs : List (Option Value)} (h : OksO ps vs) (n : Nat) : OksO (ps ++ List.replicate n none) (vs ++ List.replicate n none) := by
  induction h with
  | nil => induction n with
    | zero => exact .nil
    | succ n ih => exact .no ih
  | no _ ih => exact .no ih
  | so hp _ ih => exact .so hp ih
noncomputable def inst (C dx : Addr) (sl : List (Option Pt)) : Obj → Prop := fun o => ∃ vs, OksO sl vs ∧ o = ⟨.ref C, some dx, .plain, vs.toArray⟩
theorem lookIn_of {o : Obj} {es : Array DictEntry} {ep : Nat} (hd : o.data = .dict es ep) (hk : StrKeys es) (x : Str) : lookIn x o = some (nsFind es x) := by
  unfold lookIn nsFind findBy
  rw [hd]
  obtain ⟨l⟩ := es
  simp only [List.find?_toArray]
  cases q : l.find? (fun e => e.key.isStr x) with
  | some e => simp [q]
  | none =>
    have : l.any (·.refKey) = false := by
      rw [List.any_eq_false]
      intro e he
      obtain ⟨n, t, hn⟩ := hk e (by simpa using he)
      simp [DictEntry.refKey, hn]
    simp [q, this]
theorem nodup_len : ∀ (l m : List Str), l.Nodup → (∀ x ∈ l, x ∈ m) → l.length ≤ m.length
  | [], _, _, _ => Nat.zero_le _
  | a :: l, m, nd, h => by
    obtain ⟨m1, m2, rfl⟩ := List.append_of_mem (h a (.head _))
    obtain ⟨ha, nd⟩ := List.nodup_cons.mp nd
    have := nodup_len l (m1 ++ m2) nd fun x hx => by
      rcases List.mem_append.mp (h x (.tail _ hx)) with q | q
      · exact List.mem_append_left _ q
      · rcases List.mem_cons.mp q with rfl | q
        · exact absurd hx ha
        · exact List.mem_append_right _ q
    simp at this ⊢
    omega
noncomputable def dicP (loc : Loc) : Obj → Prop := fun o => ∃ es ep, o.data = .dict es ep ∧ StrKeys es ∧ UniqKeys es ∧ ∀ x, Kn (loc.lookup x) (nsFind es x)
theorem dic_size {loc : Loc} {es : Array DictEntry} (hk : StrKeys es) (hu : UniqKeys es) (kn : ∀ x, Kn (loc.lookup x) (nsFind es x)) : es.size ≤ loc.length := by
  obtain ⟨es⟩ := es
  let nm : DictEntry → Str := fun e => match e.key with | .str n _ => n | _ => Str.empty
  have hs : ∀ e ∈ es, e.key.isStr (nm e) = true := fun e he => by
    obtain ⟨n, t, h⟩ := hk e (by simpa using he)
    simp [nm, h, Value.isStr]
  have h1 : (es.map nm).Nodup := by
    unfold List.Nodup
    rw [List.pairwise_map]
    refine List.Pairwise.imp_of_mem ?_ hu
    intro a b ha hb h e
    exact h (nm a) (hs a ha) (e ▸ hs b hb)
  have h2 : ∀ x ∈ es.map nm, x ∈ loc.map (·.1) := fun x hx => by
    obtain ⟨e, he, rfl⟩ := List.mem_map.mp hx
    have k := kn (nm e)
    have f : nsFind ⟨es⟩ (nm e) ≠ none := by
      unfold nsFind findBy
      simp only [List.find?_toArray]
      intro q
      have q' : es.find? (fun e' => e'.key.isStr (nm e)) = none := by simpa using q
      exact absurd (hs e he) (by simpa using List.find?_eq_none.mp q' e he)
    cases q : loc.lookup (nm e) with
    | none => rw [q] at k; exact absurd k f
    | some v =>
      clear k f hx he hs h1 kn hu hk
      generalize nm e = x at q
      induction loc with
      | nil => cases q
      | cons p r ih =>
        obtain ⟨y, u⟩ := p
        cases c : x == y with
        | true => have : x = y := by simpa using c
                  subst this; exact .head _
        | false => rw [List.lookup_cons, c] at q; exact .tail _ (ih q)
  have := nodup_len _ _ h1 h2
  simpa using this
section
variable {G : Gr} {w : World} {n m : Nat} {B : Bx G w n} {l l' : List Ent} {L : Addr} {loc loc' : Loc} {env : Env} {x : Str} {pos ap ps : Pos} {k : Nat} {sc : Scope} {cs : List (Str × Addr)} {p q : Pt}
  {KV : Pt → List Ent → Prop} {KU : List Ent → Prop} {KB : Bool → List Ent → Prop} {KL : List Pt → List Ent → Prop} {KF : Fl → List Ent → Prop} {KN : Option Pt → List Ent → Prop}
  {a b C dx : Addr} {sl : List (Option Pt)} {vs us : List Pt} {i : Int} {r : List Stmt} {y z : List Nat} {at' : Str}
noncomputable abbrev qGet (B : Bx G w n) (at' : Str) (KV : Pt → List Ent → Prop) : Pt → List Ent → Prop := fun p l => WV1 B l (fun ov => getAttr ov at' true) p KV
theorem k_Attr {value : Expr} (h : WV B l (eval value env) (qGet B at' KV))
    (he : attributeBase value at' env (eval value env) = eval value env := by rfl) : WV B l (eval (.Attribute value at' pos) env) KV := fun s F => by
  rw [arm_eval_Attribute, he]
  exact wpAny_bind (h.use F fun v p l s hp h F => wpAny_bind (wpAny_standAt (wpAny_bind (wpAny_holding ((h v hp).use F fun r p l s hp h F => wpAny_bind (wpAny_letTemporaryGo (wpAny_pure (vi hp F h))))))))
noncomputable abbrev qSetA (B : Bx G w n) (env : Env) (at' : Str) (r : List Stmt) (KF : Fl → List Ent → Prop) (p : Pt) : Pt → List Ent → Prop := fun a l => WU2 B l (fun ov v => setAttr ov at' v) a p (qRest B env r KF)
noncomputable abbrev qSetO (B : Bx G w n) (env : Env) (o : Expr) (at' : Str) (r : List Stmt) (KF : Fl → List Ent → Prop) : Pt → List Ent → Prop := fun p l => WV B l (eval o env) (qSetA B env at' r KF p)
theorem k_AssignAttr {o e : Expr} (h : WV B l (eval e env) (qSetO B env o at' r KF)) (hs : swapsWith e (some (.Attribute o at' ps)) pos.line env = pure false := by rfl) : WF B l (execs (.Assign [.Attribute o at' ps] e pos :: r) env) KF := .cons fun s F => by
  rw [plainObj_exec_Assign_Attribute _ _ _ _ _ hs]
  refine wpAny_bind (wpAny_standAt (wpAny_bind (h.use F fun v p l s hp h F => wpAny_bind ?_)))
  rw [arm_assign_Attribute]
  exact wpAny_bind (wpAny_holding (h.use F fun ov a l s ha h F => wpAny_bind (wpAny_standAt (wpAny_bind (wpAny_holding ((h ov v ha hp).use F fun l s h F => wpAny_release (wpAny_pure (ni F h))))))))
theorem instAt {s : Shared} (F : St G s l) (h1 : Has a (inst C dx sl) l) (h2 : Has dx (dicP loc) l) : ∃ vs od, OksO sl vs ∧ PySem.W.InstAt s.heap a ⟨.ref C, some dx, .plain, vs.toArray⟩ C (some od) ∧ ∀ x, ∃ v, lookIn x od = some v ∧ Kn (loc.lookup x) v := by
  obtain ⟨o, e, vs, hv, rfl⟩ := F.get h1
  obtain ⟨od, e', es, ep, hd, hk, _, kn⟩ := F.get h2
  exact ⟨vs, od, hv, ⟨e, rfl, rfl, e'⟩, fun x => ⟨_, lookIn_of hd hk x, kn x⟩⟩
noncomputable def Pt.handed : Pt → Bool
  | .any => false
  | .bi _ => false
  | _ => true
theorem Pt.handed_ok {v : Value} (h : p.handed = true) (hp : p.ok v) : handedIn v = true := by
  cases p <;> first | cases h | skip
  all_goals
    simp only [Pt.ok] at hp
    first
      | (obtain ⟨t, rfl⟩ := hp; rfl)
      | (subst hp; rfl)
noncomputable def getOk (P : Params) (C : Addr) (name : Str) : Bool := plainGet (K P) C name && hasDictIn (K P) C && (match findIn (K P) (.ref C) name with | some none => true | _ => false)
theorem k_getD {y : Str} (i j d : Nat) (h1 : gE l i = some (a, inst C dx sl)) (h2 : gE l d = some (dx, dicP loc)) (hv : gN loc j = some (y, some p)) (hx : (ix loc at' j && p.handed && getOk w.params C at') = true) (h : KV p l) : WV1 B l (fun ov => getAttr ov at' true) (.ref a) KV := fun v hv' s F => by
  cases hv'
  simp only [Bool.and_eq_true] at hx
  obtain ⟨⟨hx, hh⟩, hg⟩ := hx
  simp only [getOk, Bool.and_eq_true] at hg
  obtain ⟨⟨g1, g2⟩, g3⟩ := hg
  obtain ⟨vs, od, _, I, kn⟩ := instAt F (Has.of h1) (Has.of h2)
  obtain ⟨v', e, k⟩ := kn at'
  rw [(Lk.of hv hx).eq] at k
  obtain ⟨v, rfl, hp⟩ := k
  split at g3
  · rename_i q
    exact get_value (B.bs.X.keeps F.base) I (plainGet_of g1).1 (findObj_own g2 q (by rfl) e) (Pt.handed_ok hh hp) (vi hp (F.tok _) h)
  · cases g3
noncomputable def setOk (P : Params) (C : Addr) (name : Str) : Bool := (findIn (K P) (.ref C) "__setattr__" == some (some (.builtin "object.__setattr__"))) && plainOver (K P) C && hasDictIn (K P) C && (match takerIn (K P) C name with | some none => true | _ => false)
theorem k_setD (i j d : Nat) (hlen : (sN loc j at' p).length ≤ 1000000) (h1 : gE l i = some (a, inst C dx sl)) (h2 : gE l d = some (dx, dicP loc)) (hx : (ix loc at' j && setOk w.params C at') = true) (h : KU (sE l d (dx, dicP (sN loc j at' p)))) : WU2 B l (fun ov v => setAttr ov at' v) (.ref a) p KU := fun v u hv' hp s F => by
  cases hv'
  simp only [Bool.and_eq_true] at hx
  obtain ⟨hx, hg⟩ := hx
  simp only [setOk, Bool.and_eq_true, beq_iff_eq] at hg
  obtain ⟨⟨⟨g1, g2⟩, g3⟩, g4⟩ := hg
  obtain ⟨vs, od, _, I, _⟩ := instAt F (Has.of h1) (Has.of h2)
  obtain ⟨od', e', es, ep, hd1, hk, hu, kn⟩ := F.get (Has.of h2)
  have hns : s.heap.Ns1 dx (nsFind es) := ⟨od', es, ep, e', hd1, hk, hu, fun _ => rfl⟩
  have X := B.bs.X.keeps F.base
  split at g4
  · rename_i q
    obtain ⟨hh, g, dr, tk, os⟩ := s
    refine set_plain X I g1 (osa_open (s := ⟨hh, g, dr, tk + 1, os⟩) X I g2 q fun b => ?_)
    obtain ⟨cd, hc, hd'⟩ := any_some g3
    refine wpAny_bind (wpAny_pure (wpAny_bind (wpAny_bind (wpAny_loadPart (s := ⟨hh, g, dr, tk + 1, os⟩) I.at_ (wpAny_bind (Looks.here (s := ⟨hh, g, dr, tk + 1, os⟩) (looks_clsIn X hc) ?_))))))
    rw [hd']
    refine wpAny_pure (a := some dx) (wpAny_bind (wpAny_pure (wpAny_bind ?_)))
    refine wpAny_nsSet1 (s := ⟨hh, g, dr, tk + 1, os⟩) hns fun h' hn hs => ?_
    obtain ⟨o2, es2, ep2, e2, d2, k2, u2, f2⟩ := hn
    have kn2 : ∀ y, Kn ((sN loc j at' p).lookup y) (nsFind es2 y) := fun y => by rw [f2]; exact (Put.of hx).eq hp kn y
    have hz := dic_size k2 u2 kn2
    have hl : (sN loc j at' p).length ≤ sizeLine := sz hlen
    refine wpAny_bind (wpAny_lookBehind e2 (by rw [d2]; exact pastItsLine_dict (by omega)) ?_)
    exact wpAny_pure (ui (F.upd (P' := dicP (sN loc j at' p)) (t := tk + 1 + 1) (Rep.of h2) (fun b o hb q => (hs.2 b hb).trans q) ⟨o2, e2, es2, ep2, d2, k2, u2, kn2⟩) h)
  · cases g4
end
noncomputable def others (h : Heap) (x L : Addr) : List (Addr × Obj) := (List.range h.objs.size).filterMap fun b => if b = x ∨ b = L then none else (h.get? b).map fun o => (b, o)
theorem mem_others {h : Heap} {x L b : Addr} {o : Obj} (h1 : b ≠ x) (h2 : b ≠ L) (e : h.get? b = some o) : (b, o) ∈ others h x L :=
  List.mem_filterMap.mpr ⟨b, List.mem_range.mpr (Heap.lt_size e), by rw [if_neg (by simp [h1, h2]), e]; rfl⟩
theorem of_others {h : Heap} {x L : Addr} {p : Addr × Obj} (hp : p ∈ others h x L) : p.1 ≠ x ∧ p.1 ≠ L ∧ h.get? p.1 = some p.2 := by
  obtain ⟨b, hb, e⟩ := List.mem_filterMap.mp hp
  split at e
  · cases e
  · rename_i q
    cases g : h.get? b with
    | none => rw [g] at e; cases e
    | some o => rw [g] at e; cases e; exact ⟨fun z => q (.inl z), fun z => q (.inr z), g⟩
theorem ent_one {l : List Ent} (nd : (l.map (·.1)).Nodup) {p q : Ent} (hp : p ∈ l) (hq : q ∈ l) (e : p.1 = q.1) : p = q := by
  induction l with
  | nil => exact nomatch hp
  | cons r l ih =>
    have nd' := List.nodup_cons.mp nd
    cases hp with
    | head => cases hq with
      | head => rfl
      | tail _ hq => exact absurd (List.mem_map.mpr ⟨q, hq, e.symm⟩) nd'.1
    | tail _ hp => cases hq with
      | head => exact absurd (List.mem_map.mpr ⟨p, hp, e⟩) nd'.1
      | tail _ hq => exact ih nd'.2 hp hq
noncomputable abbrev noHeap : Heap := { objs := #[] }
section
variable {G : Gr} {w : World} {n m : Nat} {B : Bx G w n} {l l' : List Ent} {L : Addr} {loc loc' : Loc} {env : Env} {x : Str} {pos ap ps : Pos} {k : Nat} {sc : Scope} {cs : List (Str × Addr)} {p q : Pt}
  {KV : Pt → List Ent → Prop} {KU : List Ent → Prop} {KB : Bool → List Ent → Prop} {KL : List Pt → List Ent → Prop} {KF : Fl → List Ent → Prop} {KN : Option Pt → List Ent → Prop}
  {a b C dx pd : Addr} {sl : List (Option Pt)} {vs us : List Pt} {i : Int} {r : List Stmt} {y z : List Nat} {at' : Str}
theorem noHeap_get (b : Addr) : noHeap.get? b = none := by
  cases q : noHeap.get? b with
  | none => rfl
  | some o => exact absurd (Heap.lt_size q) (Nat.not_lt_zero _)
theorem news_all {h : Heap} {x L : Addr} {ox : Obj} (hx : h.get? x = some ox) (hne : x ≠ L) : News noHeap L h ((x, ox) :: others h x L) := fun p hp => by
  rcases List.mem_cons.mp hp with rfl | hp
  · exact ⟨hx, hne, noHeap_get _⟩
  · obtain ⟨_, h2, h3⟩ := of_others hp
    exact ⟨h3, h2, noHeap_get _⟩
noncomputable def slotOk (P : Params) (C : Addr) (name : Str) (pd : Addr) (j : Nat) : Bool := plainGet (K P) C name && isClsIn (K P) C && (findIn (K P) (.ref C) name == some (some (.ref pd))) && (specialIn (K P) (.ref pd) "__get__" == some (some (.builtin "member_descriptor.__get__"))) &&
  (takesIn (K P) (.ref pd) == some true) && (slotIn (K P) pd C == some j)
theorem k_getS (pd : Addr) (i j d : Nat) (h1 : gE l i = some (a, inst C dx sl)) (h2 : gE l d = some (dx, dicP loc)) (hv : sl[j]? = some (some p)) (hx : (slotOk w.params C at' pd j && p.handed) = true) (h : KV p l) : WV1 B l (fun ov => getAttr ov at' true) (.ref a) KV := fun v hv' s F => by
  cases hv'
  simp only [slotOk, Bool.and_eq_true, beq_iff_eq] at hx
  obtain ⟨⟨⟨⟨⟨⟨g1, g2⟩, g3⟩, g4⟩, g5⟩, g6⟩, hh⟩ := hx
  obtain ⟨vs, od, hs, I, _⟩ := instAt F (Has.of h1) (Has.of h2)
  obtain ⟨v, e, hp⟩ := hs.get hv
  have X := B.bs.X.keeps F.base
  obtain ⟨hh', g, dr, tk, os⟩ := s
  exact get_bind X I (plainGet_of g1).1 (findObj_data g2 g3 g4 g5) (plainGet_of g1).2 (wpAny_call (slot_get (s := ⟨hh', g, dr, tk + 1, os⟩) X I g6 (v := v) (by simp [e]) (handed_on (Pt.handed_ok hh hp) (vi hp (F.tok _) h))))
noncomputable def sslotOk (P : Params) (C : Addr) (name : Str) (pd : Addr) (j : Nat) : Bool := (findIn (K P) (.ref C) "__setattr__" == some (some (.builtin "object.__setattr__"))) && plainOver (K P) C && (takerIn (K P) C name == some (some (.ref pd))) && (typeIn (K P) (.ref pd) == some (.type "member_descriptor")) && (slotIn (K P) pd C == some j) && decide (j < 1000)
noncomputable def putS (sl : List (Option Pt)) (j : Nat) (p : Pt) : List (Option Pt) := (sl ++ List.replicate (j + 1 - sl.length) none).set j (some p)
theorem k_setS (pd : Addr) (i j d f : Nat) (hf : gE l f = some (L, nsP loc')) (h1 : gE l i = some (a, inst C dx sl)) (h2 : gE l d = some (dx, dicP loc)) (hx : sslotOk w.params C at' pd j = true) (h : KU (sE l i (a, inst C dx (putS sl j p)))) : WU2 B l (fun ov v => setAttr ov at' v) (.ref a) p KU := fun v u hv' hp s F => by
  cases hv'
  simp only [sslotOk, Bool.and_eq_true, beq_iff_eq, decide_eq_true_eq] at hx
  obtain ⟨⟨⟨⟨⟨g1, g2⟩, g3⟩, g4⟩, g5⟩, g6⟩ := hx
  obtain ⟨vs, od, hs, I, _⟩ := instAt F (Has.of h1) (Has.of h2)
  have X := B.bs.X.keeps F.base
  obtain ⟨mm, hns, kn⟩ := F.ns (Has.of hf)
  have hne : a ≠ L := fun e => by
    subst e
    obtain ⟨o, e1, es, ep, hd, _⟩ := F.get (Has.of hf)
    have := I.at_
    rw [e1] at this; cases this; cases hd
  obtain ⟨hh', g, dr, tk, os⟩ := s
  have hz := hs.len
  refine set_plain X I g1 (osa_descr (s := ⟨hh', g, dr, tk + 1, os⟩) KF.slot_mset X I g2 g3 g4 (slot_set (s := ⟨hh', g, dr, tk + 1, os⟩) (h₀ := noHeap) (L := L) (m := mm) (pre := []) (post := others hh' a L) ⟨hns, fun b o e => (by rw [noHeap_get] at e; cases e), Nat.zero_le _⟩ (news_all I.at_ hne) X I g5 g6 (fun _ h => (nomatch h)) (fun p hp => (of_others hp).1) rfl rfl fun h' F' N' => ?_))
  have hoth : ∀ b o, b ≠ a → b ≠ L → hh'.get? b = some o → h'.get? b = some o := fun b o h1 h2 e => (N' (b, o) (List.mem_append_right _ (.tail _ (mem_others h1 h2 e)))).1
  have hself := (N' _ (List.mem_append_right _ (.head _))).1
  have F1 : St G ⟨h', g, dr, tk + 1, os⟩ (sE l i (a, inst C dx (putS sl j p))) := by
    have hR : Rep a (inst C dx sl) (inst C dx (putS sl j p)) l _ := Rep.of h1
    refine ⟨fun b o e0 => ?_, fun p' hp' => ?_, fun p' hp' => ?_, hR.keys ▸ F.nd, F.gens, F.drawn, F.os⟩
    · refine hoth b o (fun q => ?_) (fun q => ?_) (F.base b o e0)
      · rw [q, F.off (Has.of h1)] at e0; cases e0
      · rw [q, F.off (Has.of hf)] at e0; cases e0
    · rcases hR.mem F.nd p' hp' with rfl | ⟨hq, hqa⟩
      · refine ⟨_, hself, _, ((hs.pad (j + 1 - sl.length)).set hp j), ?_⟩
        simp [hz]
        exact Array.ext' (by simp)
      · by_cases c : p'.1 = L
        · have : p' = (L, nsP loc') := ent_one F.nd hq (Has.of hf).mem c
          subst this
          exact nsP_of F'.ns kn
        · obtain ⟨o, e, z⟩ := F.led p' hq
          exact ⟨o, hoth _ _ hqa c e, z⟩
    · rcases hR.mem F.nd p' hp' with rfl | ⟨hq, _⟩
      · exact F.off hR.has
      · exact F.new p' hq
  exact ui F1 h
end
noncomputable def methOk (P : Params) (C : Addr) (name : Str) (f : Addr) : Bool := plainGet (K P) C name && (findIn (K P) (.ref C) name == some (some (.ref f))) && isFn (K P) (.ref f)
section
variable {G : Gr} {w : World} {n m : Nat} {B : Bx G w n} {l l' : List Ent} {L : Addr} {loc loc' : Loc} {env : Env} {x : Str} {pos ap ps : Pos} {k : Nat} {sc : Scope} {cs : List (Str × Addr)} {p q : Pt}
  {KV : Pt → List Ent → Prop} {KU : List Ent → Prop} {KB : Bool → List Ent → Prop} {KL : List Pt → List Ent → Prop} {KF : Fl → List Ent → Prop} {KN : Option Pt → List Ent → Prop}
  {a b C dx pd : Addr} {sl : List (Option Pt)} {vs us : List Pt} {i : Int} {r : List Stmt} {y z : List Nat} {at' : Str}
noncomputable abbrev qCF (B : Bx G w n) (f a : Addr) (KV : Pt → List Ent → Prop) : List Pt → List Ent → Prop := fun ps l => WC B l (.ref f) (.ref a :: ps) KV
noncomputable abbrev qIM (B : Bx G w n) (name : Str) (f : Addr) (fd : FuncData) (m : Addr → List Ent → Prop) : Pt → List Ent → Prop := fun ov l => ∃ a, ov = .ref a ∧ (∃ C dx sl loc i d, gE l i = some (a, inst C dx sl) ∧ gE l d = some (dx, dicP loc) ∧ (loc.lookup name).isNone = true ∧ methOk w.params C name f = true ∧ (K w.params).lookup f = some { cls := .type "function", data := .func fd }) ∧ m a l
theorem qim {name : Str} {f : Addr} {fd : FuncData} {M : Addr → List Ent → Prop} (i d : Nat) (h1 : gE l i = some (a, inst C dx sl)) (h2 : gE l d = some (dx, dicP loc)) (h3 : (loc.lookup name).isNone = true) (h4 : methOk w.params C name f = true) (h5 : (K w.params).lookup f = some { cls := .type "function", data := .func fd }) (h : M a l) : qIM B name f fd M (.ref a) l :=
  ⟨a, rfl, ⟨C, dx, sl, loc, i, d, h1, h2, h3, h4, h5⟩, h⟩
theorem imeth {o : Expr} {name : Str} {f : Addr} {fd : FuncData} {args : List Expr} {M : Addr → List Ent → Prop} {pl : Sem Bool}
    (h : WV B l (eval o env) (qIM B name f fd M))
    (hM : ∀ a l s, M a l → St G s l → wpAny (model pw w) B.A (evalArgs (.ref f) true (backTo pos (starEach args env)) []) (fun x s₁ => x.kw = [] ∧ ∃ ps l, Oks ps x.pos ∧ St G s₁ l ∧ WC B l (.ref f) (.ref a :: ps) KV) NoE s)
    (he : eval (.Call (.Attribute o name ap) args [] pos) env = (do
      let ov ← eval o env
      standAt ap.atName
      let (f, first) ← holding [ov] (getMethod ov name pl)
      callWith pos f first (backTo pos (starEach args env)) []) := by rfl) : WV B l (eval (.Call (.Attribute o name ap) args [] pos) env) KV := fun s F =>
  MethodCall_ (h.use F fun ov p l s hp h F => by
    obtain ⟨a, rfl, ⟨C, dx, sl, loc, i, d, h1, h2, h3, h4, h5⟩, hm⟩ := h
    cases hp
    simp only [methOk, Bool.and_eq_true, beq_iff_eq] at h4
    obtain ⟨⟨g1, g2⟩, g3⟩ := h4
    obtain ⟨vs, od, _, I, kn⟩ := instAt F (Has.of h1) (Has.of h2)
    obtain ⟨v, e, k⟩ := kn name
    rw [Option.isNone_iff_eq_none.mp h3] at k
    cases k
    refine method_fn (B.bs.X.keeps F.base) I (plainGet_of g1).1 (plainGet_of g1).2 g2 (beq_iff_eq.mp g3) (by show (lookIn name od).map _ = _; rw [e]; rfl) ?_
    refine callWith_function (fd := fd) (wpAny_mono (hM a l s hm F) (fun x s ⟨hk, ps, l, hps, F, z⟩ => ⟨⟨F.base _ _ (B.bs.X _ _ h5), rfl⟩, ?_⟩) fun _ _ z => z)
    rw [hk]
    exact z _ (.cons okR hps) s F) he
noncomputable abbrev mArgs (B : Bx G w n) (pos : Pos) (args : List Expr) (env : Env) (f : Addr) (KV : Pt → List Ent → Prop) (a : Addr) (l : List Ent) : Prop := WL B l (spliced (backTo pos (starEach args env))) (qCF B f a KV)
theorem k_imeth {pl : Sem Bool} {o e : Expr} {rest : List Expr} {name : Str} {f : Addr} {fd : FuncData} (h : WV B l (eval o env) (qIM B name f fd (mArgs B pos (e :: rest) env f KV)))
    (hs : starEach (e :: rest) env = (false, eval e env) :: starEach rest env := by rfl)
    (he : eval (.Call (.Attribute o name ap) (e :: rest) [] pos) env = (do
      let ov ← eval o env
      standAt ap.atName
      let (f, first) ← holding [ov] (getMethod ov name pl)
      callWith pos f first (backTo pos (starEach (e :: rest) env)) []) := by rfl) : WV B l (eval (.Call (.Attribute o name ap) (e :: rest) [] pos) env) KV :=
  imeth h (fun a l s hm F => k_args (hm.use F fun vs ps l s hps h F => ⟨rfl, ps, l, hps, F, h⟩) hs) he
theorem k_imeth0 {pl : Sem Bool} {o : Expr} {name : Str} {f : Addr} {fd : FuncData} (h : WV B l (eval o env) (qIM B name f fd (fun a l => WC B l (.ref f) [.ref a] KV)))
    (he : eval (.Call (.Attribute o name ap) [] [] pos) env = (do
      let ov ← eval o env
      standAt ap.atName
      let (f, first) ← holding [ov] (getMethod ov name pl)
      callWith pos f first (backTo pos (starEach [] env)) []) := by rfl) : WV B l (eval (.Call (.Attribute o name ap) [] [] pos) env) KV :=
  imeth h (fun a l s hm F => PySem.evalArgs_none ⟨rfl, [], l, .nil, F, hm⟩) he
theorem Ar.under {A : Around} {n : Nat} (h : Ar A (n + 1)) {C : Addr} {vs : List Value} : Ar (A.under (.builtin "type.__call__" ⟨.ref C :: vs, []⟩)) n :=
  ⟨h.hh, by have := h.dep; show A.depth + 1 + _ + _ ≤ _; omega, by have := h.un; have e : (Code.builtin "type.__call__" ⟨.ref C :: vs, []⟩).cUnits ≤ 10 := (by simp [Code.cUnits, Code.frames, Code.isFrame]); show A.units + (Code.builtin "type.__call__" ⟨.ref C :: vs, []⟩).cUnits + _ + _ ≤ _; omega⟩
theorem c_make {C fI : Addr} {ps : List Pt} {B : Bx G w (n + 1)} (hm : makesIn (K w.params) C = true) (hi : findIn (K w.params) (.ref C) "__init__" = some (some (.ref fI))) (ht : typeIn (K w.params) (.ref fI) = some (.type "function"))
    (h : ∀ (B' : Bx G w n) x dx, WK B' ((x, inst C dx []) :: (dx, dicP []) :: l) (.ref fI) (.ref x :: ps) (fun p l => p = .none ∧ KV (.ref x) l)) : WC B l (.ref C) ps KV := fun vs hvs s F => by
  have X := B.bs.X.keeps F.base
  obtain ⟨hh, g, d, t, os⟩ := s
  refine wpAny_call (make_core (makes_of X hm) (looks_findIn X hi) (fun self => bind_fn X self ht) (.inl rfl) ?_)
  have F1 : St G ⟨hh.push emptyDict, g, d, t, os⟩ ((hh.objs.size, dicP []) :: l) := F.push ⟨#[], 0, rfl, (fun _ h => by simp at h), by simp [UniqKeys], fun _ => rfl⟩ rfl
  have F2 := F1.push (P := inst C hh.objs.size []) (o := instObj C hh.objs.size) (t := t) ⟨[], .nil, rfl⟩ rfl
  rw [Heap.size_push] at F2
  refine codeAny_mono (h ⟨_, B.bs, B.hA.under (C := C) (vs := vs)⟩ (hh.objs.size + 1) hh.objs.size _ (.cons okR hvs) _ F2) fun r s' z => ?_
  rcases r with e | (v | _ | _ | _) <;> first | exact z.elim | skip
  obtain ⟨p, l', hp, F', rfl, z⟩ := z
  cases hp
  exact ⟨rfl, vi okR F' z⟩
end
noncomputable abbrev SK (w : World) := PySem.strKind pw w
inductive KOks : List (List Nat × Pt) → List (Str × Value) → Prop
  | nil : KOks [] []
  | cons {y p v ks vs} : p.ok v → KOks ks vs → KOks ((y, p) :: ks) ((S y, v) :: vs)
theorem KOks.len {ks : List (List Nat × Pt)} {kv : List (Str × Value)} (h : KOks ks kv) : kv.length = ks.length := by
  induction h with
  | nil => rfl
  | cons _ _ ih => simp [ih]
theorem S_inj {y z : List Nat} : (S y = S z) ↔ y = z := ⟨fun e => by simpa using e, fun e => by rw [e]⟩
noncomputable def atK (ks : List (List Nat × Pt)) (y : List Nat) : Option Pt := (ks.find? fun k => k.1 == y).map (·.2)
noncomputable def putK (ks : List (List Nat × Pt)) (y : List Nat) (p : Pt) : List (List Nat × Pt) := if ks.any (fun k => k.1 == y) then ks.map (fun k => if k.1 == y then (k.1, p) else k) else ks ++ [(y, p)]
theorem KOks.at {ks : List (List Nat × Pt)} {kv : List (Str × Value)} (h : KOks ks kv) (y : List Nat) : (atK ks y = none ∧ valueAt kv (S y) = none) ∨ ∃ p v, atK ks y = some p ∧ valueAt kv (S y) = some v ∧ p.ok v := by
  induction h with
  | nil => exact .inl ⟨rfl, rfl⟩
  | @cons z p v ks vs hp _ ih =>
    by_cases q : z = y
    · subst q
      exact .inr ⟨p, v, by simp [atK], by simp [valueAt], hp⟩
    · have q' : ¬ S z = S y := fun e => q (S_inj.mp e)
      have e1 : atK ((z, p) :: ks) y = atK ks y := by simp [atK, List.find?_cons, q]
      have e2 : valueAt ((S z, v) :: vs) (S y) = valueAt vs (S y) := by
        unfold valueAt
        rw [List.find?_cons, decide_eq_false (by simpa using q')]
      rw [e1, e2]; exact ih
theorem KOks.any {ks : List (List Nat × Pt)} {kv : List (Str × Value)} (h : KOks ks kv) (y : List Nat) : kv.any (fun k => decide (k.1 = S y)) = ks.any (fun k => k.1 == y) := by
  induction h with
  | nil => rfl
  | @cons z p v ks vs hp _ ih =>
    simp only [List.any_cons, ih]
    congr 1
    by_cases q : z = y
    · subst q; simp
    · have q' : ¬ S z = S y := fun e => q (S_inj.mp e)
      simp [q] 
theorem KOks.app {ks ls : List (List Nat × Pt)} {kv lv : List (Str × Value)} (h : KOks ks kv) (k : KOks ls lv) : KOks (ks ++ ls) (kv ++ lv) := by
  induction h with
  | nil => exact k
  | cons hp _ ih => exact .cons hp ih
theorem KOks.map {ks : List (List Nat × Pt)} {kv : List (Str × Value)} {y : List Nat} {p : Pt} {v : Value} (h : KOks ks kv) (hp : p.ok v) : KOks (ks.map fun k => if k.1 == y then (k.1, p) else k) (kv.map fun k => if k.1 = S y then (k.1, v) else k) := by
  induction h with
  | nil => exact .nil
  | @cons z q u ks vs hq _ ih =>
    simp only [List.map_cons]
    by_cases c : z = y
    · subst c
      rw [if_pos (by simp), if_pos rfl]; exact .cons hp ih
    · have c' : ¬ S z = S y := fun e => c (S_inj.mp e)
      rw [if_neg (by simpa using c), if_neg c']; exact .cons hq ih
theorem KOks.put {ks : List (List Nat × Pt)} {kv : List (Str × Value)} {y : List Nat} {p : Pt} {v : Value} (h : KOks ks kv) (hp : p.ok v) : KOks (putK ks y p) (stored kv (S y) v) := by
  unfold putK stored
  rw [h.any]
  split
  · exact h.map hp
  · exact h.app (.cons hp .nil)
noncomputable def dct (w : World) (ks : List (List Nat × Pt)) : Obj → Prop := fun o => ∃ kv, KOks ks kv ∧ o.IsDictOf (SK w) kv
section
variable {G : Gr} {w : World} {n m : Nat} {B : Bx G w n} {l l' : List Ent} {L : Addr} {loc loc' : Loc} {env : Env} {x : Str} {pos ap ps : Pos} {k : Nat} {sc : Scope} {cs : List (Str × Addr)} {p q : Pt}
  {KV : Pt → List Ent → Prop} {KU : List Ent → Prop} {KB : Bool → List Ent → Prop} {KL : List Pt → List Ent → Prop} {KF : Fl → List Ent → Prop} {KN : Option Pt → List Ent → Prop}
  {a b : Addr} {vs us : List Pt} {i : Int} {r : List Stmt} {y z : List Nat} {at' : Str} {ks : List (List Nat × Pt)}
theorem St.dict {s : Shared} (F : St G s l) (h : Has a (dct w ks) l) : ∃ kv, KOks ks kv ∧ s.heap.DictOf (SK w) a kv :=
  let ⟨_, e, kv, hk, hd⟩ := F.get h; ⟨kv, hk, Heap.dictOf_iff.mpr ⟨_, e, hd⟩⟩
theorem sk_is {t : Tok} : (SK w).is (S y) (.str (S y) t) = true := by show PySem.Value.isStrOf (S y) (.str (S y) t) = true; simp [PySem.Value.isStrOf]
theorem k_dget {value slice : Expr} (j : Nat) (h1 : gE l j = some (a, dct w ks)) (hv : atK ks y = some p) (h : KV p l) : WV2 B l (subscriptTail value slice) (.ref a) (.str y) KV := fun v u hv' hu s F => by
  cases hv'
  obtain ⟨t, rfl⟩ := hu
  obtain ⟨kv, hk, hd⟩ := F.dict (Has.of h1)
  rcases hk.at y with ⟨e, _⟩ | ⟨p', v, e, e', hp⟩
  · rw [hv] at e; cases e
  · rw [hv] at e; cases e
    exact r_tail slot_dict_getitem.lookup hd.typeIs (wpAny_getItem_of (knd := SK w) sk_is hd.mapOf e' (vi hp (F.tok _) h))
theorem k_dset (j : Nat) (h1 : gE l j = some (a, dct w ks)) (hz : ks.length ≤ 1000000) (h : KU (sE l j (a, dct w (putK ks y p)))) : WU3 B l setItem (.ref a) (.str y) p KU := fun v u x hv' hu hx s F => by
  cases hv'
  obtain ⟨t, rfl⟩ := hu
  obtain ⟨kv, hk, hd⟩ := F.dict (Has.of h1)
  refine wpAny_setItem_pairs (knd := SK w) sk_is hd (fun h' hd' hs => ?_) (by rw [hk.len]; exact sz hz)
  obtain ⟨o, e, ho⟩ := Heap.dictOf_iff.mp hd'
  exact ui (F.upd (P' := dct w (putK ks y p)) (t := s.toks + 1) (Rep.of h1) (fun b o hb e => (hs.2 b hb).trans e) ⟨o, e, _, hk.put hx, ho⟩) h
theorem notSys {s : Shared} {P : Obj → Prop} (B : Bx G w n) (F : St G s l) (h : Has a P l) : (a == sysModules) = false := by
  have := F.off h
  by_cases q : a = sysModules
  · rw [q] at this; exact absurd this B.bs.sm
  · simpa using q
theorem k_Dict0 (h : ∀ a, KV (.ref a) ((a, dct w []) :: l)) : WV B l (eval (.Dict [] [] pos) env) KV := fun s F => by
  rw [eval_Dict_empty]
  refine wpAny_bind (wpAny_standAt ?_)
  refine wpAny_newObj_type (vi okR (F.push (P := dct w []) ⟨[], .nil, ?_⟩ rfl) (h _)) (by size_fits)
  obtain ⟨o, e, ho⟩ := Heap.dictOf_iff.mp (Heap.DictOf.new (knd := SK w) s.heap)
  rw [Heap.get?_push_size _ rfl] at e
  cases e
  exact ho
theorem c_dget (j : Nat) (h1 : gE l j = some (a, dct w ks)) (h : KV ((atK ks y).getD .none) l) : WC B l (.builtin "dict.get") [.ref a, .str y] KV := on2 fun v u s hv hu F => by
  cases hv
  obtain ⟨t, rfl⟩ := hu
  obtain ⟨kv, hk, hd⟩ := F.dict (Has.of h1)
  have hs : (a == sysModules) = false := notSys B F (Has.of h1)
  refine call_meetsIn PySem.F.slot_dict_get hd.typeIs PySem.F.entry_dict_get (PySem.F.args_dict_get_2 _ _) (meets_dict_get (SK w) a sk_is hs) ⟨_, hd.mapOf, ?_⟩
  rcases hk.at y with ⟨e, e'⟩ | ⟨p', v, e, e', hp⟩
  · rw [e']; rw [e] at h; exact vi okNo (F.tok _) h
  · rw [e']; rw [e] at h; exact vi hp (F.tok _) h
noncomputable abbrev qDM (B : Bx G w n) (pos : Pos) (id : String) (args : List Expr) (env : Env) (KV : Pt → List Ent → Prop) : Pt → List Ent → Prop := fun ov l => ∃ a, ov = .ref a ∧ (∃ i ks, gE l i = some (a, dct w ks)) ∧ WV B l (callWith pos (.builtin id) [.ref a] (backTo pos (starEach args env)) []) KV
theorem qdm {id : String} {args : List Expr} (i : Nat) (hh : gE l i = some (a, dct w ks)) (z : WV B l (callWith pos (.builtin id) [.ref a] (backTo pos (starEach args env)) []) KV) : qDM B pos id args env KV (.ref a) l := ⟨a, rfl, ⟨i, ks, hh⟩, z⟩
theorem k_dmeth {pl : Sem Bool} {o : Expr} {name : Str} {id : String} {args : List Expr} (slot : Slot "dict" name id) (hty : typeOf (.builtin id) = pure (.type "method_descriptor"))
    (h : WV B l (eval o env) (qDM B pos id args env KV))
    (he : eval (.Call (.Attribute o name ap) args [] pos) env = (do
      let ov ← eval o env
      standAt ap.atName
      let (f, first) ← holding [ov] (getMethod ov name pl)
      callWith pos f first (backTo pos (starEach args env)) []) := by rfl) :
    WV B l (eval (.Call (.Attribute o name ap) args [] pos) env) KV := fun s F =>
  MethodCall_ (h.use F fun ov p l s₁ hp h F => by
    obtain ⟨a, e, ⟨i, ks, hh⟩, z⟩ := h
    subst e; cases hp
    obtain ⟨o, e, kv, hk, hd⟩ := F.get (Has.of hh)
    have hx : o.ExactDict := hd.choose_spec.choose_spec.1
    exact getMethod_builtin (T := "dict") ⟨o, e, hx.1⟩ PySem.F.plainAttrs_dict slot hty (fun a' e' => by cases e'; exact ⟨o, e, hx.2.1⟩) (z _ F)) he
end
theorem meets_bool_list (a : Addr) (us : List Value) (hz : us.length ≤ 1000000) : Meets (Builtin.«bool.__new__» ⟨[.type "bool", .ref a], []⟩) (fun _ R s => s.heap.IsList a us.toArray ∧ R (.ok (.ret (.bool (!us.isEmpty)))) { s with toks := s.toks + 1 + 1 }) := by
  intro prog w A R s ⟨hl, h⟩
  show wpAny _ _ (truthy (.ref a) >>= fun b => ret (.bool b)) _ _ s
  refine wpAny_bind (wpAny_truthy_list hl (by simp only [List.size_toArray]; omega) (wpAny_pure ?_))
  simpa using h
section
variable {G : Gr} {w : World} {n : Nat} {B : Bx G w n} {l : List Ent} {KV : Pt → List Ent → Prop} {a : Addr} {vs : List Pt}
theorem c_boolL (i : Nat) (hL : gE l i = some (a, lst vs)) (hz : vs.length ≤ 1000000) (h : KV (.bool (!vs.isEmpty)) l) : WC B l (.type "bool") [.ref a] KV := on1 fun v s hv F => by
  cases hv
  obtain ⟨us, k, e⟩ := isL F (Has.of hL)
  have z := k.len
  refine call_bool_1 (meets_bool_list a us (by omega)) ⟨e, ⟨rfl, vi okB (F.tok _) ?_⟩⟩
  have : us.isEmpty = vs.isEmpty := by
    cases vs with
    | nil => cases k; rfl
    | cons => cases k; rfl
  rw [this]; exact h
end
section
variable {G : Gr} {w : World} {n : Nat} {B : Bx G w n} {l : List Ent} {KV : Pt → List Ent → Prop} {a : Addr} {vs : List Pt}
theorem c_tupleL (i : Nat) (hL : gE l i = some (a, lst vs)) (hz : vs.length ≤ 1000000) (h : ∀ b, KV (.ref b) ((b, tup vs) :: l)) : WC B l (.type "tuple") [.ref a] KV := on1 fun v s hv F => by
  cases hv
  obtain ⟨us, k, e⟩ := isL F (Has.of hL)
  refine call_tuple_list e (fun h' hk => ?_) (by rw [List.size_toArray, k.len]; exact sz hz)
  have F' : St G { s with heap := h' } l := F.keep (t := s.toks) hk
  exact vi okR (F'.push (P := tup vs) ⟨us, _, k, rfl⟩ rfl) (h _)
end
structure Nd where
  a : Addr
  dx : Addr
  sa : Addr
  name : List Nat
  np : Int
  succ : List (List Nat)
noncomputable def nodeL (d : Nd) : List Ent := [(d.a, inst 40 d.dx [some (.str d.name), some (.int d.np), some (.ref d.sa)]), (d.dx, dicP []), (d.sa, lst (d.succ.map Pt.str))]
noncomputable abbrev sorD (n2 : Addr) (rd : Pt) (po nf : Int) : Loc := [bd "_node2info" (.ref n2), bd "_ready_nodes" rd, bd "_npassedout" (.int po), bd "_nfinished" (.int nf)]
theorem focus (d1 d2 : List Nd) (d : Nd) (l : List Ent) : ((d1 ++ d :: d2).flatMap nodeL ++ l).Perm (nodeL d ++ ((d1 ++ d2).flatMap nodeL ++ l)) := by
  simp only [List.flatMap_append, List.flatMap_cons, List.append_assoc]
  exact (List.perm_append_comm_assoc ..)
theorem Nd.split {ds : List Nd} {y : List Nat} (h : y ∈ ds.map (·.name)) : ∃ d1 d d2, ds = d1 ++ d :: d2 ∧ d.name = y := by
  obtain ⟨d, hd, e⟩ := List.mem_map.mp h
  obtain ⟨d1, d2, rfl⟩ := List.append_of_mem hd
  exact ⟨d1, d, d2, rfl, e⟩
noncomputable def places (ds : List Nd) : List (List Nat × Pt) := ds.map fun d => (d.name, Pt.ref d.a)
theorem atK_places {d1 d2 : List Nd} {d : Nd} (hn : ((d1 ++ d :: d2).map (·.name)).Nodup) : atK (places (d1 ++ d :: d2)) d.name = some (.ref d.a) := by
  have h : ∀ e ∈ d1, e.name ≠ d.name := fun e he q => by
    rw [List.map_append, List.map_cons] at hn
    have := (List.nodup_append.mp hn).2.2 e.name (List.mem_map.mpr ⟨e, he, rfl⟩) d.name (.head _)
    exact this q
  induction d1 with
  | nil => simp [places, atK]
  | cons e r ih =>
    have := ih (by simpa using (List.nodup_cons.mp (by simpa using hn)).2) fun x hx => h x (.tail _ hx)
    unfold places atK at this ⊢
    rw [List.cons_append, List.map_cons, List.find?_cons, show (e.name == d.name) = false by simpa using h e (.head _)]
    exact this
noncomputable def setN (ds : List Nd) (y : List Nat) (f : Nd → Nd) : List Nd := ds.map fun d => if d.name == y then f d else d
noncomputable def names (ds : List Nd) : List (List Nat) := ds.map (·.name)
theorem setN_names {ds : List Nd} {y : List Nat} {f : Nd → Nd} (hf : ∀ d, (f d).name = d.name) : names (setN ds y f) = names ds := by
  unfold names setN
  rw [List.map_map]
  refine List.map_congr_left fun d _ => ?_
  show Nd.name (if _ then _ else _) = _
  split
  · exact hf d
  · rfl
theorem setN_places {ds : List Nd} {y : List Nat} {f : Nd → Nd} (hf : ∀ d, (f d).name = d.name ∧ (f d).a = d.a) : places (setN ds y f) = places ds := by
  unfold places setN
  rw [List.map_map]
  refine List.map_congr_left fun d _ => ?_
  show (Nd.name (if _ then _ else _), Pt.ref (Nd.a (if _ then _ else _))) = _
  split
  · rw [(hf d).1, (hf d).2]
  · rfl
theorem setN_off {ds : List Nd} {y : List Nat} {f : Nd → Nd} (h : y ∉ names ds) : setN ds y f = ds := by
  unfold setN
  rw [List.map_congr_left (g := id) fun d hd => ?_, List.map_id]
  rw [if_neg]; rfl
  intro e
  exact h (List.mem_map.mpr ⟨d, hd, by simpa using e⟩)
theorem setN_split {d1 d2 : List Nd} {d : Nd} {f : Nd → Nd} (hn : (names (d1 ++ d :: d2)).Nodup) : setN (d1 ++ d :: d2) d.name f = d1 ++ f d :: d2 := by
  have hn' : (names d1 ++ d.name :: names d2).Nodup := by simpa [names] using hn
  obtain ⟨_, h2, h3⟩ := List.nodup_append.mp hn'
  have a1 : d.name ∉ names d1 := fun h => h3 _ h _ (.head _) rfl
  have a2 : d.name ∉ names d2 := (List.nodup_cons.mp h2).1
  have e1 := setN_off (f := f) a1
  have e2 := setN_off (f := f) a2
  unfold setN at e1 e2 ⊢
  rw [List.map_append, List.map_cons, e1, e2, if_pos (by simp)]
structure Foc (ds : List Nd) (y : List Nat) (d : Nd) (rest : List Nd) : Prop where
  name : d.name = y
  mem : d ∈ ds
  at_ : atK (places ds) y = some (.ref d.a)
  to : ∀ l, (ds.flatMap nodeL ++ l).Perm (nodeL d ++ (rest.flatMap nodeL ++ l))
  back : ∀ (f : Nd → Nd) l, (nodeL (f d) ++ (rest.flatMap nodeL ++ l)).Perm ((setN ds y f).flatMap nodeL ++ l)
theorem foc {ds : List Nd} {y : List Nat} (hn : (names ds).Nodup) (hy : y ∈ names ds) : ∃ d rest, Foc ds y d rest := by
  obtain ⟨d1, d, d2, rfl, e⟩ := Nd.split hy
  subst e
  refine ⟨d, d1 ++ d2, rfl, by simp, atK_places hn, fun l => focus _ _ _ _, fun f l => ?_⟩
  rw [setN_split hn]
  exact (focus _ _ _ _).symm
theorem Im.tl {p : Ent} {l l' : List Ent} (h : Im l l') : Im (p :: l) (p :: l') := .keep .head h
theorem cel_of {p : Option Pt} : ∀ o, cel p o → cel none o := fun o h => by
  cases p with
  | none => exact h
  | some p => exact ⟨_, h.choose_spec.1⟩
section
variable {G : Gr} {w : World} {n : Nat} {B : Bx G w n} {l l' : List Ent} {p q : Pt} {KV : Pt → List Ent → Prop} {KU : List Ent → Prop} {KB : Bool → List Ent → Prop}
theorem WU1.im {f : Value → Sem Unit} (h : Im l l') (k : WU1 B l' f p KU) : WU1 B l f p KU := fun v hv s F => k v hv s (F.im h)
theorem WC.im {f : Value} {ps : List Pt} (h : Im l l') (k : WC B l' f ps KV) : WC B l f ps KV := fun vs hv s F => k vs hv s (F.im h)
end
noncomputable def tabP : Obj → Prop := fun o => ∃ ps, o = tabObj ps ∧ TriplesOk ps.toList
noncomputable abbrev cellsE (cs : List (Str × Addr)) : List Ent := cs.map fun x => (x.2, cel none)
noncomputable abbrev cellNames (ns : List (Str × NameKind)) : List Str := ((ns.filter fun x => x.2 == .cell).map (·.1)).reverse
section
variable {G : Gr} {w : World} {n m : Nat} {B : Bx G w n} {l l' : List Ent} {L : Addr} {loc loc' : Loc} {env : Env} {x : Str} {p q : Pt}
  {KV : Pt → List Ent → Prop} {KU : List Ent → Prop} {KF : Fl → List Ent → Prop} {ps : List Pt}
noncomputable def WBs (B : Bx G w n) (env : Env) : List Str → List Pt → (List Ent → Prop) → List Ent → Prop
  | x :: xs, p :: ps, K, l => WU1 B l (storeName env x) p (WBs B env xs ps K)
  | _, _, K, l => K l
theorem wbs_cons {xs : List Str} {K : List Ent → Prop} (h : WU1 B l (storeName env x) p (WBs B env xs ps K)) : WBs B env (x :: xs) (p :: ps) K l := h
theorem wbs_nil {K : List Ent → Prop} (h : K l) : WBs B env [] [] K l := h
theorem St.cells {s : Shared} {R : List Ent} : ∀ (names : List (Str × NameKind)) (h : Heap) (acc : List (Str × Addr)), St G { s with heap := h } (cellsE acc ++ R) →
    St G { s with heap := pushCells h names } (cellsE (cellsFrom h.objs.size names acc) ++ R) := fun names => by
  induction names with
  | nil => exact fun h acc F => F
  | cons x r ih =>
    obtain ⟨name, kind⟩ := x
    intro h acc F
    unfold pushCells cellsFrom
    split
    · have F' : St G { s with heap := h.push { cls := .type "cell", data := .cell none } } (cellsE ((name, h.objs.size) :: acc) ++ R) := F.push (P := cel none) (t := s.toks) ⟨none, rfl⟩ rfl
      have := ih _ _ F'
      rwa [Heap.size_push] at this
    · exact ih _ _ F
theorem cells_names : ∀ (names : List (Str × NameKind)) (k : Nat) (acc : List (Str × Addr)), (cellsFrom k names acc).map (·.1) = cellNames names ++ acc.map (·.1) := fun names => by
  induction names with
  | nil => exact fun _ _ => rfl
  | cons x r ih =>
    obtain ⟨name, kind⟩ := x
    intro k acc
    unfold cellsFrom
    by_cases h : (kind == NameKind.cell) = true
    · rw [if_pos h, ih]
      simp [cellNames, List.filter_cons, h]
    · rw [if_neg h, ih]
      simp [cellNames, List.filter_cons, h]
theorem wbs_run {env : Env} {E : Value → Shared → Prop} {K : List Ent → Prop} {Q : PUnit → Shared → Prop} (f : Str × Value → PUnit → Sem (ForInStep PUnit)) (hf : ∀ n v u, f (n, v) u = (do storeName env n v; pure (.yield ⟨⟩))) :
    ∀ (b : List (Str × Value)) (ps : List Pt) (l : List Ent) (s : Shared), Oks ps (b.map (·.2)) → WBs B env (b.map (·.1)) ps K l → St G s l → (∀ l' s', K l' → St G s' l' → Q ⟨⟩ s') → wpAny (model pw w) B.A (forIn b ⟨⟩ f) Q E s := fun b => by
  induction b with
  | nil =>
    intro ps l s hp hw F h
    cases hp
    rw [List.forIn_nil]
    exact wpAny_pure (h _ _ hw F)
  | cons x r ih =>
    obtain ⟨x, v⟩ := x
    intro ps l s hp hw F h
    cases hp with
    | cons hv hp =>
    rw [List.forIn_cons, hf]
    refine wpAny_bind (wpAny_bind (wpAny_mono (hw v hv s F) (fun _ s' z => ?_) fun _ _ z => z.elim))
    obtain ⟨l', F', z⟩ := z
    exact wpAny_pure (ih _ _ _ hp z F' h)
theorem wp_newEnv {A : Around} {E : Value → Shared → Prop} {s : Shared} {scope : Scope} {globals : Addr} {b : List (Str × Value)} {qual : Str} {func : Option Addr} {code : Value} {builtins : Addr} {Q : Env → Shared → Prop} {K : Env → List Ent → Prop}
    (hA : Ar A m) (bs : Bs G w) (F : St G s l) (hps : Oks ps (b.map (·.2)))
    (hw : ∀ L cs env, env = newEnv scope L globals cs qual func code none builtins → cs.map (·.1) = cellNames scope.names → WBs (⟨A, bs, hA⟩ : Bx G w m) env (b.map (·.1)) ps (K env) (cellsE cs ++ (L, nsP []) :: l))
    (h : ∀ L cs env, env = newEnv scope L globals cs qual func code none builtins → ∀ l' s', K env l' → St G s' l' → Q env s') : wpAny (model pw w) A (newFunctionEnv scope globals [] b qual func code none builtins) Q E s := by
  simp only [newFunctionEnv, Option.isSome_none, Bool.false_eq_true, if_false]
  refine wpAny_bind (wpAny_alloc ?_)
  refine wpAny_bind (wpAny_layCells _ (fun name kind cells => by cases hkc : kind == NameKind.cell <;> simp [hkc]) _ _ _ _ ?_)
  have F1 : St G { s with heap := s.heap.push { cls := .type "frame", data := .dict #[] } } ((s.heap.objs.size, nsP []) :: l) := F.push (P := nsP []) (t := s.toks) ⟨#[], 0, rfl, (fun _ h => by simp at h), fun _ => rfl⟩ rfl
  have F2 := St.cells (s := { s with heap := s.heap.push { cls := .type "frame", data := .dict #[] } }) (R := (s.heap.objs.size, nsP []) :: l) scope.names _ [] F1
  refine wpAny_bind (wbs_run (B := ⟨A, bs, hA⟩) (env := newEnv scope s.heap.objs.size globals (cellsFrom (s.heap.push { cls := .type "frame", data := .dict #[] }).objs.size scope.names []) qual func code none builtins) _ (fun _ _ _ => rfl) b ps _ _ hps
    (hw _ _ _ rfl (by rw [cells_names]; simp)) F2 fun l' s' z F' => wpAny_pure (h _ _ _ rfl _ _ z F'))
theorem k_enterC {f : Addr} {fd : FuncData} {ps : List Pt} {names : List Str} {body : List Stmt} {B : Bx G w (n + 1)} (ho : (K w.params).lookup f = some { cls := .type "function", data := .func fd })
    (hcd : codeIn (K w.params) fd.code fd.qualname = true) (hbody : fd.body = .stmts body) (hg : fd.globals = mainGlobals) (hb : fd.builtins = builtinsNs) (hcl : fd.closure = [])
    (hok : ((!fd.scope.isCoroutine) && (!fd.scope.isGenerator)) = true)
    (hbind : ∀ vs, Oks ps vs → ∃ b, bindArgs fd ⟨vs, []⟩ = pure b ∧ b.map (·.1) = names ∧ b.map (·.2) = vs)
    (h : ∀ L cs env (B' : Bx G w n) (B1 : Bx G w n) (KF : Fl → List Ent → Prop), En env L fd.scope cs → cs.map (·.1) = cellNames fd.scope.names → (∀ p l l', Im l l' → KV p l' → KF (.ret p) l) → (∀ l l', Im l l' → KV .none l' → KF .next l) →
      WBs B1 env names ps (fun l' => WF B' l' (execs body env) KF) (cellsE cs ++ (L, nsP []) :: l)) :
    WC B l (.ref f) ps KV := WK.wc fun vs hvs s F => by
  simp only [Bool.and_eq_true, Bool.not_eq_true'] at hok
  obtain ⟨h1, h2⟩ := hok
  have ho' := F.base _ _ (B.bs.X _ _ ho)
  obtain ⟨b, hbi, hna, hbs⟩ := hbind vs hvs
  refine codeAny_call_function B.hA.room ho' rfl h1 h2 hbody ((codeRec_of B.bs.X hcd).keeps F.base) (hbi ▸ wpAny_pure ?_)
  rw [hcl]
  refine wp_newEnv (K := fun env l' => WF (⟨B.A.deeper env, B.bs, B.hA.deeper env⟩ : Bx G w n) l' (execs body env) (fun f l => ∃ l', Im l l' ∧ match f with | .ret p => KV p l' | _ => KV .none l')) B.hA.in1 B.bs F (hbs ▸ hvs) (fun L cs env he hcs => ?_) fun L cs env he l' s' z F' => ⟨B.bs.lim.keeps F'.base, codeAny_func (wpAny_mono (z s' F') (fun fl s' ⟨f, l, hf, F, l', hl', z⟩ => ?_) fun _ _ z => z.elim)⟩
  · subst he
    rw [hna]
    exact h L cs _ ⟨B.A.deeper _, B.bs, B.hA.deeper _⟩ ⟨_, B.bs, B.hA.in1⟩ _ ⟨rfl, rfl, rfl, hg, hb⟩ hcs (fun p l l' h1 h2 => ⟨l', h1, h2⟩) (fun l l' h1 h2 => ⟨l', h1, h2⟩)
  · cases f with
    | next => cases hf; exact ⟨_, _, okNo, F.im hl', z⟩
    | brk => cases hf; exact ⟨_, _, okNo, F.im hl', z⟩
    | cont => cases hf; exact ⟨_, _, okNo, F.im hl', z⟩
    | ret p => obtain ⟨v, rfl, hp⟩ := hf; exact ⟨_, _, hp, F.im hl', z⟩
theorem k_enterB {f : Addr} {fd : FuncData} {ps : List Pt} {names : List Str} {body : List Stmt} {R : Loc → List Ent → Prop} {B : Bx G w (n + 1)} (ho : (K w.params).lookup f = some { cls := .type "function", data := .func fd })
    (hcd : codeIn (K w.params) fd.code fd.qualname = true) (hbody : fd.body = .stmts body) (hg : fd.globals = mainGlobals) (hb : fd.builtins = builtinsNs) (hcl : fd.closure = [])
    (hok : ((fd.scope.names.all fun x => x.2 != .cell) && (names.all fun x => fd.scope.names.lookup x == some .local) && (!fd.scope.isCoroutine) && (!fd.scope.isGenerator) && (fd.scope.kind == .function)) = true)
    (hbind : ∀ vs, Oks ps vs → ∀ s, St G s l → ∀ (A : Around) (Q : List (Str × Value) → Shared → Prop) (E : Value → Shared → Prop), (∀ b loc l' s', St G s' l' → b.map (·.1) = names → Binds b loc → R loc l' → Q b.reverse s') → wpAny (model pw w) A (bindArgs fd ⟨vs, []⟩) Q E s)
    (h : ∀ loc l₁ L env (B' : Bx G w n) (KF : Fl → List Ent → Prop), R loc l₁ → En env L fd.scope [] → (∀ p l l', Im l l' → KV p l' → KF (.ret p) l) → (∀ l l', Im l l' → KV .none l' → KF .next l) → WF B' ((L, nsP loc) :: l₁) (execs body env) KF) :
    WK B l (.ref f) ps KV := fun vs hvs s F => by
  simp only [Bool.and_eq_true, Bool.not_eq_true', beq_iff_eq] at hok
  obtain ⟨⟨⟨⟨hcell, hloc⟩, h1⟩, h2⟩, h3⟩ := hok
  have ho' := F.base _ _ (B.bs.X _ _ ho)
  refine codeAny_call_function B.hA.room ho' rfl h1 h2 hbody ((codeRec_of B.bs.X hcd).keeps F.base) (hbind vs hvs s F _ _ _ fun b loc l₁ s F hna hbs hR => ?_)
  refine wpAny_newFunctionEnv ?_ ?_ (fun h₀ hns hsb => ?_) h3
  · intro y hy e
    have := List.all_eq_true.mp hcell y hy
    rw [e] at this; exact absurd this (by decide)
  · intro y hy
    have := List.all_eq_true.mp hloc y.1 (by rw [← hna]; exact List.mem_map.mpr ⟨y, List.mem_reverse.mp hy, rfl⟩)
    simpa using this
  · have hk : ∀ b o, s.heap.get? b = some o → h₀.get? b = some o := fun b o e => hsb.extBut b o (Nat.ne_of_lt (Heap.lt_size e)) (Heap.get?_push_of_some _ e)
    have nw : s.heap.get? s.heap.objs.size = none := by
      cases q : s.heap.get? s.heap.objs.size with
      | none => rfl
      | some o => exact absurd (Heap.lt_size q) (Nat.lt_irrefl _)
    refine ⟨(B.bs.lim.keeps F.base).keeps hk, codeAny_func (wpAny_mono (h loc l₁ _ _ ⟨B.A.deeper _, B.bs, B.hA.deeper _⟩ (fun f l => ∃ l', Im l l' ∧ match f with | .ret p => KV p l' | _ => KV .none l') hR ?_ (fun p l l' h1 h2 => ⟨l', h1, h2⟩) (fun l l' h1 h2 => ⟨l', h1, h2⟩) _ (F.cons nw hk (nsP_of hns fun y => by rw [List.reverse_reverse]; exact hbs.kn y))) (fun fl s' ⟨f, l, hf, F, l', hl', z⟩ => ?_) fun _ _ z => z.elim)⟩
    · exact ⟨rfl, rfl, hcl, hg, hb⟩
    · cases f with
      | next => cases hf; exact ⟨_, _, okNo, F.im hl', z⟩
      | brk => cases hf; exact ⟨_, _, okNo, F.im hl', z⟩
      | cont => cases hf; exact ⟨_, _, okNo, F.im hl', z⟩
      | ret p => obtain ⟨v, rfl, hp⟩ := hf; exact ⟨_, _, hp, F.im hl', z⟩
end
noncomputable abbrev Word := List Nat
noncomputable def npOf (ds : List Nd) (y : Word) : Int := ((ds.find? fun d => d.name == y).map (·.np)).getD 0
noncomputable def succOf (ds : List Nd) (y : Word) : List Word := ((ds.find? fun d => d.name == y).map (·.succ)).getD []
noncomputable def shp (d : Nd) : Addr × Addr × Addr × Word × List Word := (d.a, d.dx, d.sa, d.name, d.succ)
noncomputable def shape (ds : List Nd) := ds.map shp
theorem names_shape {ds ds' : List Nd} (h : shape ds' = shape ds) : names ds' = names ds := by
  have := congrArg (List.map fun x => x.2.2.2.1) h
  simpa [shape, names, shp, List.map_map, Function.comp_def] using this
theorem places_shape {ds ds' : List Nd} (h : shape ds' = shape ds) : places ds' = places ds := by
  have := congrArg (List.map fun x => (x.2.2.2.1, Pt.ref x.1)) h
  simpa [shape, places, shp, List.map_map, Function.comp_def] using this
theorem succ_shape {ds ds' : List Nd} (h : shape ds' = shape ds) (y : Word) : succOf ds' y = succOf ds y := by
  have e : ∀ ds : List Nd, succOf ds y = (((shape ds).find? fun x => x.2.2.2.1 == y).map fun x => x.2.2.2.2).getD [] := fun ds => by
    unfold succOf shape
    rw [List.find?_map, Option.map_map]
    rfl
  rw [e, e, h]
theorem mem_shape {ds ds' : List Nd} (h : shape ds' = shape ds) {d : Nd} (hd : d ∈ ds) : ∃ d' ∈ ds', shp d' = shp d := by
  have : shp d ∈ shape ds' := h ▸ List.mem_map.mpr ⟨d, hd, rfl⟩
  exact List.mem_map.mp this
theorem setN_shape {ds : List Nd} {y : Word} {f : Nd → Nd} (hf : ∀ d, shp (f d) = shp d) : shape (setN ds y f) = shape ds := by
  unfold shape setN
  rw [List.map_map]
  refine List.map_congr_left fun d _ => ?_
  show shp (if _ then _ else _) = _
  split
  · exact hf d
  · rfl
theorem Foc.find {ds rest : List Nd} {y : Word} {d : Nd} (hn : (names ds).Nodup) (h : Foc ds y d rest) : ds.find? (fun d => d.name == y) = some d := by
  obtain ⟨d1, d2, e⟩ := List.append_of_mem h.mem
  have hn' : (names d1 ++ d.name :: names d2).Nodup := by rw [e] at hn; simpa [names] using hn
  have h3 := (List.nodup_append.mp hn').2.2
  rw [e, List.find?_append, List.find?_eq_none.mpr fun x hx => ?_]
  · simp [h.name]
  · have := h3 x.name (List.mem_map.mpr ⟨x, hx, rfl⟩) d.name (.head _)
    rw [h.name] at this
    simpa using this
theorem Foc.np {ds rest : List Nd} {y : Word} {d : Nd} (hn : (names ds).Nodup) (h : Foc ds y d rest) : npOf ds y = d.np := by unfold npOf; rw [h.find hn]; rfl
theorem Foc.succ {ds rest : List Nd} {y : Word} {d : Nd} (hn : (names ds).Nodup) (h : Foc ds y d rest) : succOf ds y = d.succ := by unfold succOf; rw [h.find hn]; rfl
theorem has_succ {ds : List Nd} {d : Nd} (hd : d ∈ ds) (l : List Ent) : Has d.sa (lst (d.succ.map Pt.str)) (ds.flatMap nodeL ++ l) :=
  .of_mem (List.mem_append_left _ (List.mem_flatMap.mpr ⟨d, hd, by simp [nodeL]⟩))
theorem has_succS {ds ds' : List Nd} (h : shape ds' = shape ds) {d : Nd} (hd : d ∈ ds) (l : List Ent) : Has d.sa (lst (d.succ.map Pt.str)) (ds'.flatMap nodeL ++ l) := by
  obtain ⟨d', h1, h2⟩ := mem_shape h hd
  simp only [shp, Prod.mk.injEq] at h2
  obtain ⟨_, _, e1, _, e2⟩ := h2
  rw [← e1, ← e2]
  exact has_succ h1 l
noncomputable def addSucc (y : Word) (d : Nd) : Nd := { d with succ := d.succ ++ [y] }
noncomputable def addNp (v : Int) (d : Nd) : Nd := { d with np := d.np + v }
noncomputable def addP (ds : List Nd) (y : Word) (zs : List Word) : List Nd := zs.foldl (fun ds z => setN ds z (addSucc y)) (setN ds y (addNp zs.length))
theorem adds_names (y : Word) (ds : List Nd) : ∀ zs : List Word, names (zs.foldl (fun ds z => setN ds z (addSucc y)) ds) = names ds := fun zs => by
  induction zs generalizing ds with
  | nil => rfl
  | cons z r ih => exact (ih _).trans (setN_names fun _ => rfl)
theorem adds_places (y : Word) (ds : List Nd) : ∀ zs : List Word, places (zs.foldl (fun ds z => setN ds z (addSucc y)) ds) = places ds := fun zs => by
  induction zs generalizing ds with
  | nil => rfl
  | cons z r ih => exact (ih _).trans (setN_places fun _ => ⟨rfl, rfl⟩)
theorem adds_take {y : Word} {ds : List Nd} {zs : List Word} {k : Nat} {z : Word} (h : zs[k]? = some z) :
    (zs.take (k + 1)).foldl (fun ds z => setN ds z (addSucc y)) ds = setN ((zs.take k).foldl (fun ds z => setN ds z (addSucc y)) ds) z (addSucc y) := by
  rw [List.take_add_one, h, List.foldl_append]
  rfl
theorem setN_len {ds : List Nd} {y : Word} {f : Nd → Nd} {m : Nat} (hf : ∀ d, (f d).succ.length = d.succ.length) (h : ∀ d ∈ ds, d.succ.length ≤ m) : ∀ d ∈ setN ds y f, d.succ.length ≤ m := fun d hd => by
  obtain ⟨e, he, rfl⟩ := List.mem_map.mp hd
  split
  · rw [hf]; exact h e he
  · exact h e he
theorem adds_len (y : Word) (ds : List Nd) {m : Nat} (h : ∀ d ∈ ds, d.succ.length ≤ m) : ∀ zs : List Word, ∀ d ∈ zs.foldl (fun ds z => setN ds z (addSucc y)) ds, d.succ.length ≤ m + zs.length := fun zs => by
  induction zs generalizing ds m with
  | nil => exact h
  | cons z r ih =>
    intro d hd
    have h2 : ∀ d ∈ setN ds z (addSucc y), d.succ.length ≤ m + 1 := fun d hd => by
      obtain ⟨e, he, rfl⟩ := List.mem_map.mp hd
      have := h e he
      split
      · simp only [addSucc, List.length_append, List.length_cons, List.length_nil]; omega
      · omega
    have := ih _ h2 d hd
    rw [List.length_cons]; omega
theorem atK_none {ds : List Nd} {y : Word} (h : y ∉ names ds) : atK (places ds) y = none := by
  unfold atK places
  rw [List.find?_map, Option.map_map, List.find?_eq_none.mpr fun d hd => ?_]
  · rfl
  · intro e
    exact h (List.mem_map.mpr ⟨d, hd, by simpa using e⟩)
theorem putK_new {ds : List Nd} {d : Nd} (h : d.name ∉ names ds) : putK (places ds) d.name (.ref d.a) = places (ds ++ [d]) := by
  unfold putK places
  rw [if_neg]
  · simp
  · intro e
    obtain ⟨x, hx, e⟩ := List.any_eq_true.mp e
    obtain ⟨d', hd, rfl⟩ := List.mem_map.mp hx
    exact h (List.mem_map.mpr ⟨d', hd, by simpa using e⟩)
noncomputable def setNp (v : Int) (d : Nd) : Nd := { d with np := v }
noncomputable def decNp (d : Nd) : Nd := { d with np := d.np - 1 }
noncomputable def decS (x : List Nd × List Word) (y : Word) : List Nd × List Word := (setN x.1 y decNp, if npOf x.1 y - 1 = 0 then x.2 ++ [y] else x.2)
noncomputable def doneS (x : List Nd × List Word) (y : Word) : List Nd × List Word := (succOf x.1 y).foldl decS (setN x.1 y (setNp (-2)), x.2)
noncomputable def doneAll (x : List Nd × List Word) (ys : List Word) : List Nd × List Word := ys.foldl doneS x
theorem decs_shape (x : List Nd × List Word) : ∀ zs : List Word, shape (zs.foldl decS x).1 = shape x.1 := fun zs => by
  induction zs generalizing x with
  | nil => rfl
  | cons z r ih => exact (ih _).trans (setN_shape fun _ => rfl)
theorem doneS_shape (x : List Nd × List Word) (y : Word) : shape (doneS x y).1 = shape x.1 := (decs_shape _ _).trans (setN_shape fun _ => rfl)
theorem doneAll_shape (x : List Nd × List Word) : ∀ ys : List Word, shape (doneAll x ys).1 = shape x.1 := fun ys => by
  induction ys generalizing x with
  | nil => rfl
  | cons z r ih => exact (ih _).trans (doneS_shape _ _)
theorem decs_len (x : List Nd × List Word) : ∀ zs : List Word, (zs.foldl decS x).2.length ≤ x.2.length + zs.length := fun zs => by
  induction zs generalizing x with
  | nil => exact Nat.le_refl _
  | cons z r ih =>
    refine Nat.le_trans (ih _) ?_
    unfold decS
    dsimp only
    split
    · simp only [List.length_append, List.length_cons, List.length_nil]; omega
    · simp only [List.length_cons]; omega
theorem doneAll_len {m : Nat} (x : List Nd × List Word) (h : ∀ y, (succOf x.1 y).length ≤ m) : ∀ ys : List Word, (doneAll x ys).2.length ≤ x.2.length + m * ys.length := fun ys => by
  induction ys generalizing x with
  | nil => exact Nat.le_refl _
  | cons z r ih =>
    have h1 := ih (doneS x z) fun y => by rw [succ_shape (doneS_shape x z)]; exact h y
    have h2 := decs_len (setN x.1 z (setNp (-2)), x.2) (succOf x.1 z)
    have h3 := h z
    have h4 : (doneS x z).2.length ≤ x.2.length + m := Nat.le_trans h2 (Nat.add_le_add_left h3 _)
    have h5 : m * (z :: r).length = m * r.length + m := by rw [List.length_cons, Nat.mul_succ]
    show (doneAll (doneS x z) r).2.length ≤ _
    omega
theorem doneAll_take {x : List Nd × List Word} {ys : List Word} {k : Nat} {y : Word} (h : ys[k]? = some y) : doneAll x (ys.take (k + 1)) = doneS (doneAll x (ys.take k)) y := by
  unfold doneAll
  rw [List.take_add_one, h, List.foldl_append]
  rfl
theorem decs_take {x : List Nd × List Word} {ys : List Word} {k : Nat} {y : Word} (h : ys[k]? = some y) : (ys.take (k + 1)).foldl decS x = decS ((ys.take k).foldl decS x) y := by
  rw [List.take_add_one, h, List.foldl_append]
  rfl
theorem str_at {ys : List (List Nat)} {k : Nat} {p : Pt} (h : (ys.map Pt.str)[k]? = some p) : ∃ y, ys[k]? = some y ∧ p = .str y := by
  rw [List.getElem?_map] at h
  obtain ⟨y, e, e'⟩ := Option.map_eq_some_iff.mp h
  exact ⟨y, e, e'.symm⟩
theorem bind_done (v : Value) (us : List Value) : bindArgs f120 ⟨v :: us, []⟩ = newTuple us >>= fun t => pure [(Str.ofString "self", v), (Str.ofString "nodes", t)] := by
  cases us <;> kernel_rfl
theorem bind_add (v u : Value) (us : List Value) : bindArgs f87 ⟨v :: u :: us, []⟩ = newTuple us >>= fun t => pure [(Str.ofString "self", v), (Str.ofString "node", u), (Str.ofString "predecessors", t)] := by
  cases us <;> kernel_rfl
theorem and_f {t : Bool} {P Q : Prop} (hb : t = false) (h : Q) : (t = true → P) ∧ (t = false → Q) := ⟨fun e => Bool.noConfusion (hb.symm.trans e), fun _ => h⟩
theorem ne_f {a b : Int} (h : a = b) : (a != b) = false := by subst h; simp
section
variable {G : Gr} {w : World} {n : Nat} {B : Bx G w n} {l : List Ent} {KV : Pt → List Ent → Prop} {a : Addr} {ks : List (Word × Pt)} {y : Word} {p : Pt}
theorem c_dgetS (j : Nat) (h1 : gE l j = some (a, dct w ks)) (hv : atK ks y = some p) (h : KV p l) : WC B l (.builtin "dict.get") [.ref a, .str y] KV := c_dget j h1 (by rw [hv]; exact h)
theorem c_dgetN (j : Nat) (h1 : gE l j = some (a, dct w ks)) (hv : atK ks y = none) (h : KV .none l) : WC B l (.builtin "dict.get") [.ref a, .str y] KV := c_dget j h1 (by rw [hv]; exact h)
end
section
variable {G : Gr} {w : World} {n m : Nat} {B : Bx G w n} {l l' : List Ent} {L : Addr} {loc loc' : Loc} {env : Env} {x : Str} {pos ap ps : Pos} {k : Nat} {sc : Scope} {cs : List (Str × Addr)} {p q : Pt}
  {KV : Pt → List Ent → Prop} {KU : List Ent → Prop} {KB : Bool → List Ent → Prop} {KL : List Pt → List Ent → Prop} {KF : Fl → List Ent → Prop}
  {a b C dx : Addr} {vs us : List Pt} {r : List Stmt}
theorem k_ccall {C : Addr} {x : Str} {p : Pos} {e : Expr} {rest : List Expr} (en : En env L sc cs) (g : nsIn (K w.params) mainGlobals x = some (some (.ref C))) (hx : okN sc x .globalImplicit = true)
    (hk : keepIn (K w.params) (.ref C) = true)
    (h : WL B l (spliced (backTo pos (starEach (e :: rest) env))) (qC B (.ref C) KV))
    (he : starEach (e :: rest) env = (false, eval e env) :: starEach rest env := by rfl) (hplain : (backTo pos (starEach rest env)).any (·.1) = false := by rfl) :
    WV B l (eval (.Call (.Name x p) (e :: rest) [] pos) env) KV := fun s F =>
  Call_Name rfl (k_gname en g hx F fun s F => callWith_K B.bs.X hk (h.use F fun vs ps l s hps h F => ⟨B.bs.X.keeps F.base, h vs hps s F⟩) he hplain)
theorem k_ccall0 {C : Addr} {x : Str} {p : Pos} (en : En env L sc cs) (g : nsIn (K w.params) mainGlobals x = some (some (.ref C))) (hx : okN sc x .globalImplicit = true)
    (hk : keepIn (K w.params) (.ref C) = true) (h : WC B l (.ref C) [] KV) :
    WV B l (eval (.Call (.Name x p) [] [] pos) env) KV := fun s F =>
  Call_Name rfl (k_gname en g hx F fun s F => callWith_K0 (B.bs.X.keeps F.base) hk (h _ .nil s F))
noncomputable abbrev qAs1' (B : Bx G w n) (KU : List Ent → Prop) (p a : Pt) : Pt → List Ent → Prop := fun b l => WU3 B l setItem a b p KU
noncomputable abbrev qAs0' (B : Bx G w n) (env : Env) (i : Expr) (KU : List Ent → Prop) (p : Pt) : Pt → List Ent → Prop := fun a l => WV B l (eval i env) (qAs1' B KU p a)
theorem k_asgS {o i : Expr} (h : WV B l (eval o env) (qAs0' B env i KU p)) : WU1 B l (assign (.Subscript o i ps) env) p KU := fun v hv s F => by
  rw [arm_assign_Subscript]
  exact wpAny_bind (wpAny_holding (h.use F fun ov a l s ha h F => wpAny_bind (wpAny_holding (h.use F fun iv b l s hb h F => wpAny_bind (wpAny_standAt (wpAny_bind (wpAny_holding ((h ov iv v ha hb hv).use F fun l s h F => wpAny_release (ui F h)))))))))
noncomputable abbrev qTwo2 (B : Bx G w n) (env : Env) (t2 : Expr) (r : List Stmt) (KF : Fl → List Ent → Prop) (p : Pt) : List Ent → Prop := fun l => WU1 B l (assign t2 env) p (qRest B env r KF)
noncomputable abbrev qTwo1 (B : Bx G w n) (env : Env) (t1 t2 : Expr) (r : List Stmt) (KF : Fl → List Ent → Prop) : Pt → List Ent → Prop := fun p l => WU1 B l (assign t1 env) p (qTwo2 B env t2 r KF p)
theorem k_Assign2 {t1 t2 e : Expr} (h : WV B l (eval e env) (qTwo1 B env t1 t2 r KF))
    (he : (assignEach [t1, t2] env).map (·.2) = [assign t1 env, assign t2 env] := by rfl) (hw : swappedStores [t1, t2] e env = pure none := by rfl) : WF B l (execs (.Assign [t1, t2] e pos :: r) env) KF := .cons fun s F =>
  wpAny_Assign_two (h.use F fun v p l s hp h F => (h v hp).use F fun l s h F => (h v hp).use F fun l s h F => ni F h) he hw
noncomputable def SeqE (l : List Ent) (b : Addr) (us : List Pt) : Prop := (∃ i, gE l i = some (b, lst us)) ∨ ∃ i, gE l i = some (b, tup us)
theorem star_of {s : Shared} {Q : List Value → Shared → Prop} {A : Around} (F : St G s l) (h : SeqE l b us) (hz : us.length ≤ 1000000) (k : ∀ vs s', Oks us vs → St G s' l → Q vs s') : StarOf (model pw w) A NoE (.ref b) Q s := by
  rcases h with ⟨i, h⟩ | ⟨i, h⟩
  · obtain ⟨vs, nn, ok, e⟩ := F.lrec (Has.of h)
    have z : wpAny (model pw w) A (collect (.ref b)) Q NoE s := wpAny_collect_seq b (.inl rfl) e rfl rfl (fun h' hk => k vs _ ok (F.keep (t := s.toks) hk)) (by rw [List.size_toArray, ok.len]; exact sz hz)
    exact wpAny_bind (wpAny_specialOf ⟨_, e, rfl⟩ PySem.F.slot_list_iter.lookup (wpAny_pure ⟨rfl, z⟩))
  · obtain ⟨vs, nn, ok, e⟩ := F.trec (Has.of h)
    have z : wpAny (model pw w) A (collect (.ref b)) Q NoE s := wpAny_collect_seq b (.inr rfl) e rfl rfl (fun h' hk => k vs _ ok (F.keep (t := s.toks) hk)) (by rw [List.size_toArray, ok.len]; exact sz hz)
    exact wpAny_bind (wpAny_specialOf ⟨_, e, rfl⟩ PySem.F.slot_tuple_iter.lookup (wpAny_pure ⟨rfl, z⟩))
noncomputable abbrev qStar1 (B : Bx G w n) (f a : Addr) (KV : Pt → List Ent → Prop) : Pt → List Ent → Prop := fun p l => ∃ b us, p = .ref b ∧ SeqE l b us ∧ us.length ≤ 1000000 ∧ WC B l (.ref f) (.ref a :: us) KV
noncomputable abbrev qStarI (B : Bx G w n) (env : Env) (pos : Pos) (r : List Expr) (KL : List Pt → List Ent → Prop) : Pt → List Ent → Prop := fun p l => ∃ b us, p = .ref b ∧ SeqE l b us ∧ us.length ≤ 1000000 ∧ WL B l (spliced (backTo pos (starEach r env))) (fun ps l => KL (us ++ ps) l)
theorem k_items_star {e : Expr} {r : List Expr} (h : WV B l (eval e env) (qStarI B env pos r KL))
    (he : starEach (.Starred e ps :: r) env = (true, eval e env) :: starEach r env := by rfl) : WL B l (spliced (backTo pos (starEach (.Starred e ps :: r) env))) KL := fun s F =>
  items_star (h.use F fun v p l s hp h F => by
    obtain ⟨b, us, rfl, h1, h2, h3⟩ := h
    cases hp
    exact star_of F h1 h2 fun vs s' hv F' => h3.use F' fun ws ps l s hw h F => ⟨_, _, hv.app hw, F, h⟩) he
theorem k_powS {a b : Int} (ha : Builtin.Int.intBits a ≤ 64) (hb : 0 ≤ b) (hb2 : b ≤ 64) (h : KV (.int (a ^ b.toNat)) l) : WV2 B l (binaryOp .Pow) (.int a) (.int b) KV :=
  k_pow hb (by
    have h1 : (Builtin.Int.intBits a : Int) ≤ 64 := by omega
    have h2 := Int.mul_le_mul h1 hb2 hb (by decide)
    exact Int.le_trans h2 (by decide)) h
end
noncomputable def rl (scope outer : Scope) : Scope := { scope with names := scope.names.map fun (n, k) => if (k == .free && outer.kind == .function && outer.names.lookup n == some .cell) then (n, .cell) else (n, k) }
noncomputable def cloOf (cs : List (Str × Addr)) : List (Str × NameKind) → List (Str × Addr) → Option (List (Str × Addr))
  | [], acc => some acc
  | (n, k) :: r, acc => match k == .free with
    | true => match cs.lookup n with
      | some a => cloOf cs r ((n, a) :: acc)
      | none => none
    | false => cloOf cs r acc
theorem closure_of {env : Env} {cl : List (Str × Addr)} (f : Str × NameKind → List (Str × Addr) → Sem (ForInStep (List (Str × Addr)))) (hf : ∀ n k c, f (n, k) c = if k == .free then (do let a ← cellOf env n; pure (.yield ((n, a) :: c))) else pure (.yield c)) :
    ∀ (names : List (Str × NameKind)) (acc : List (Str × Addr)), cloOf env.cells names acc = some cl → forIn names acc f = pure cl := fun names => by
  induction names with
  | nil => intro acc h; cases h; rfl
  | cons x r ih =>
    obtain ⟨n, k⟩ := x
    intro acc h
    rw [List.forIn_cons, hf]
    unfold cloOf at h
    cases e : (k == NameKind.free) with
    | true =>
      rw [e] at h
      cases e2 : env.cells.lookup n with
      | none => rw [e2] at h; cases h
      | some a =>
        rw [e2] at h
        rw [if_pos rfl, show cellOf env n = pure a by unfold cellOf; rw [e2]]
        exact ih _ h
    | false =>
      rw [e] at h
      rw [if_neg (by simp)]
      exact ih _ h
theorem closureFor_of {scope : Scope} {env : Env} {cs cl : List (Str × Addr)} (he : env.cells = cs) (h : cloOf cs scope.names [] = some cl) : closureFor scope env = pure cl := by
  subst he
  unfold closureFor
  dsimp only
  rw [closure_of _ (fun n k c => by cases k == NameKind.free <;> rfl) scope.names [] h]
  rfl
noncomputable def compForm (target : Expr) (p : Pos) (ifs : List Expr) (emit : Sem Fin → Sem Fin) (e : Expr) (d : Nat) (it acc : Value) (env : Env) : Sem Fin := do
  standAt p
  match ← pyNext it with
  | none => pure (.done .next)
  | some v =>
    letOwnedTupleGo target it v
    assign target env v
    let mut ok := true
    for c in ifs do
      if ok then ok ← isTrue c env (eval c env)
    if ok then emit (again (.compLoop e d it acc env)) else again (.compLoop e d it acc env)
section
variable {G : Gr} {w : World} {n m : Nat} {B : Bx G w n} {l l' : List Ent} {L : Addr} {loc loc' : Loc} {env : Env} {x : Str} {pos ap ps : Pos} {k : Nat} {sc : Scope} {cs cl : List (Str × Addr)} {p q : Pt}
  {KV : Pt → List Ent → Prop} {KU : List Ent → Prop} {KB : Bool → List Ent → Prop} {KL : List Pt → List Ent → Prop} {KF : Fl → List Ent → Prop}
  {a b C dx : Addr} {vs us : List Pt} {r : List Stmt}
noncomputable def WD (B : Bx G w n) (l : List Ent) (c : Code) (K : List Ent → Prop) : Prop := ∀ s, St G s l → codeAny (model pw w) B.A c (fun r s' => match r with | .ok _ => ∃ l', St G s' l' ∧ K l' | _ => False) s
noncomputable def asgT (target : Expr) (env : Env) (it : Value) (v : Value) : Sem Unit := do letOwnedTupleGo target it v; assign target env v
theorem k_asgTN {y : Str} {it : Value} (h : WU1 B l (storeName env y) p KU) : WU1 B l (asgT (.Name y ps) env it) p KU := fun v hv s F => by
  show wpAny _ _ (letOwnedTupleGo (.Name y ps) it v >>= fun _ => assign (.Name y ps) env v) _ _ s
  exact wpAny_bind (wpAny_pure (wpAny_assign_Name (h v hv s F)))
noncomputable def WIfs (B : Bx G w n) (env : Env) : List Expr → (List Ent → Prop) → (List Ent → Prop) → List Ent → Prop
  | [], Kt, _, l => Kt l
  | [c], Kt, Kf, l => WB B l (isTrue c env (eval c env)) (fun b l => (b = true → Kt l) ∧ (b = false → Kf l))
  | _, _, _, _ => False
theorem wifs_run {A : Around} {ifs : List Expr} {Kt Kf : List Ent → Prop} {E : Value → Shared → Prop} {Q : Bool → Shared → Prop} {s : Shared} (hA : A = B.A) (h : WIfs B env ifs Kt Kf l) (F : St G s l)
    (hQ : ∀ b l' s', (b = true → Kt l') → (b = false → Kf l') → St G s' l' → Q b s') :
    wpAny (model pw w) A (forIn ifs true fun c r => if r = true then do let ok ← isTrue c env (eval c env); pure (ForInStep.yield ok) else pure (ForInStep.yield r)) Q E s := by
  subst hA
  match ifs, h with
  | [], h => exact wpAny_tests_nil (hQ true l s (fun _ => h) (fun e => nomatch e) F)
  | [c], h => exact wpAny_tests_one (wpAny_mono (h s F) (fun b s' ⟨l', F', z⟩ => hQ b l' s' z.1 z.2 F') fun _ _ z => z.elim)
  | _ :: _ :: _, h => exact h.elim
theorem wifs_mono {Kt Kt' Kf : List Ent → Prop} (hk : ∀ l, Kt l → Kt' l) : ∀ {ifs : List Expr} {l : List Ent}, WIfs B env ifs Kt Kf l → WIfs B env ifs Kt' Kf l
  | [], _, z => hk _ z
  | [_], _, z => fun s F => wpAny_mono (z s F) (fun _ _ z => z.elim fun l' z => ⟨l', z.1, fun e => hk _ (z.2.1 e), z.2.2⟩) fun _ _ z => z
  | _ :: _ :: _, _, z => z.elim
noncomputable def WUk (B : Bx G w n) (l : List Ent) (emit : Sem Fin → Sem Fin) (K : List Ent → Prop) : Prop := ∀ (kk : Sem Fin) (Q : Fin → Shared → Prop) (E : Value → Shared → Prop) s, St G s l → (∀ l' s', K l' → St G s' l' → wpAny (model pw w) B.A kk Q E s') → wpAny (model pw w) B.A (emit kk) Q E s
theorem WUk.of {em : Sem Unit} {K : List Ent → Prop} (h : WU B l em K) : WUk B l (fun kk => em >>= fun _ => kk) K := fun kk Q E s F k =>
  wpAny_bind (wpAny_mono (h s F) (fun _ s' ⟨l', F', z⟩ => k l' s' z F') fun _ _ z => z.elim)
theorem k_compLoopG {α : Type} {e target : Expr} {d : Nat} {pp : Pos} {ifs : List Expr} {emit : Sem Fin → Sem Fin} {acc : Value} {K : List Ent → Prop} (m : Nat) (Φ : Nat → α → Prop) (Lg : Nat → α → List Ent) {it : Value}
    (ht : compTurn e d it acc env = compForm target pp ifs emit e d it acc env)
    (hq : (Code.compLoop e d it acc env).quiet = true ∧ (∀ A : Around, A.under (.compLoop e d it acc env) = A) ∧ (Code.compLoop e d it acc env).isFrame = false)
    (turn : ∀ k x (K' : List Ent → Prop), k < m → Φ k x → (∀ l x', Φ (k + 1) x' → Im l (Lg (k + 1) x') → K' l) →
      WN B (Lg k x) (pyNext it) (fun o l => ∃ p, o = some p ∧ WU1 B l (asgT target env it) p (WIfs B env ifs (fun l => WUk B l emit K') K')))
    (stop : ∀ x, Φ m x → WN B (Lg m x) (pyNext it) (fun o l => o = none ∧ K l)) (x₀ : α) (h0 : Φ 0 x₀) (him : Im l (Lg 0 x₀)) : WD B l (.compLoop e d it acc env) K := fun s F => by
  obtain ⟨hq1, hq2, hq3⟩ := hq
  refine codeAny_loop hq1 (fun j s => ∃ k x, j = m - k ∧ k ≤ m ∧ Φ k x ∧ St G s (Lg k x)) (fun j s hI => ?_) m ⟨0, x₀, rfl, Nat.zero_le _, h0, F.im him⟩
  rw [hq2]
  show wpAny _ _ (if (Code.compLoop e d it acc env).isFrame then (compTurn e d it acc env).onRaise (leaving env) else (compTurn e d it acc env).onRaise (fun x => do noteFrame x env; theTreesLotGoes x)) _ _ s
  rw [hq3]
  obtain ⟨k, x, rfl, hk, hJ, F⟩ := hI
  refine wpAny_noted ?_
  rw [ht]
  unfold compForm
  by_cases q : k < m
  · have hd : m - (k + 1) < m - k := Nat.sub_lt_sub_left q (Nat.lt_succ_self k)
    refine wpAny_bind (wpAny_standAt (wpAny_bind (wn_some (turn k x (fun l => ∃ x', Φ (k + 1) x' ∧ Im l (Lg (k + 1) x')) q hJ (fun l x' h1 h2 => ⟨x', h1, h2⟩)) F fun v p l₁ s₁ hv t F => ?_)))
    have t' := t v hv s₁ F
    show wpAny _ _ (letOwnedTupleGo target it v >>= fun _ => assign target env v >>= fun _ => _) _ _ _
    rw [← bind_assoc]
    refine wpAny_bind (wpAny_mono t' (fun _ s₂ z => ?_) fun _ _ z => z.elim)
    obtain ⟨l₂, F₂, z⟩ := z
    refine wpAny_bind (wifs_run rfl z F₂ fun ok l₃ s₃ zt zf F₃ => ?_)
    cases ok with
    | true =>
      refine zt rfl _ _ _ s₃ F₃ fun l₄ s₄ z F₄ => ?_
      obtain ⟨x', hx, hi⟩ := z
      exact wpAny_pure ⟨rfl, _, hd, k + 1, x', rfl, q, hx, F₄.im hi⟩
    | false =>
      obtain ⟨x', hx, hi⟩ := zf rfl
      exact wpAny_pure ⟨rfl, _, hd, k + 1, x', rfl, q, hx, F₃.im hi⟩
  · obtain rfl : k = m := Nat.le_antisymm hk (Nat.le_of_not_lt q)
    exact wpAny_bind (wpAny_standAt (wpAny_bind (wn_none (stop x hJ) F fun l₁ s₁ z F1 => wpAny_pure ⟨_, F1, z⟩)))
theorem k_compLoop {α : Type} {e target : Expr} {d : Nat} {pp : Pos} {ifs : List Expr} {emit : Sem Fin → Sem Fin} {acc : Value} {K : List Ent → Prop} (m : Nat) (P : Nat → Obj → Prop) (item : Nat → Pt → Prop) (Φ : Nat → α → Prop) (Lg : Nat → α → List Ent)
    (ht : ∀ it, compTurn e d it acc env = compForm target pp ifs emit e d it acc env)
    (hq : ∀ it, (Code.compLoop e d it acc env).quiet = true ∧ (∀ A : Around, A.under (.compLoop e d it acc env) = A) ∧ (Code.compLoop e d it acc env).isFrame = false)
    (src : ∀ it, Src B it m P item fun k l => ∃ x, Φ k x ∧ l = Lg k x)
    (turn : ∀ it k x p (K' : List Ent → Prop), k < m → Φ k x → item k p → (∀ l x', Φ (k + 1) x' → Im l ((it, P (k + 1)) :: Lg (k + 1) x') → K' l) →
      WU1 B ((it, P (k + 1)) :: Lg k x) (asgT target env (.ref it)) p (WIfs B env ifs (fun l => WUk B l emit K') K'))
    (fin : ∀ x, Φ m x → K (Lg m x)) (it : Addr) (x₀ : α) (h0 : Φ 0 x₀) (him : Im l ((it, P 0) :: Lg 0 x₀)) : WD B l (.compLoop e d (.ref it) acc env) K :=
  k_compLoopG m Φ (fun k x => (it, P k) :: Lg k x) (ht _) (hq _) (fun k x K' hk hx h => (src it).next k (Lg k x) _ hk ⟨x, hx, rfl⟩ fun p hp => ⟨p, rfl, turn it k x p K' hk hx hp h⟩)
    (fun x hx => (src it).stop (Lg m x) _ ⟨x, hx, rfl⟩ ⟨rfl, fin x hx⟩) x₀ h0 him
theorem k_compStart {e target iter : Expr} {ifs : List Expr} {d : Nat} {it : Addr} {acc : Value} {K : List Ent → Prop} (hc : (clausesOf e)[d]? = some ⟨target, iter, ifs, 0⟩)
    (hq : (∀ A : Around, A.under (.compStart e d (.ref it) acc env) = A) ∧ (Code.compStart e d (.ref it) acc env).isFrame = false ∧ (Code.compLoop e d (.ref it) acc env).quiet = true)
    (hself : WV B l (pyIter (.ref it)) (fun q l' => q = .ref it ∧ Im l' l)) (h : WD B l (.compLoop e d (.ref it) acc env) K) : WD B l (.compStart e d (.ref it) acc env) K := fun s F => by
  obtain ⟨hq1, hq2, hq3⟩ := hq
  refine codeAny_of_tree ?_
  rw [hq1]
  show wpAny _ _ (if (Code.compStart e d (.ref it) acc env).isFrame then (compStart e d (.ref it) acc env).onRaise (leaving env) else (compStart e d (.ref it) acc env).onRaise (fun x => do noteFrame x env; standAt theWindowsPlace)) _ _ s
  rw [hq2]
  refine wpAny_notedAt ?_
  unfold compStart
  rw [hc]
  show wpAny _ _ (ask >>= _) _ _ s
  refine wpAny_bind (wpAny_askSetting (wpAny_ite ?_))
  split
  · first
      | exact wpAny_bind (wpAny_pure (wpAny_pure (And.intro hq3 (h s F))))
      | exact wpAny_pure (And.intro hq3 (h s F))
  · refine wpAny_bind (wpAny_rule ?_)
    refine wpAny_bind (wpAny_standAt (wpAny_bind (wpAny_mono (hself s F) (fun v s' ⟨p, l', hp, F', e1, hi⟩ => ?_) fun _ _ z => z.elim)))
    subst e1; cases hp
    exact wpAny_pure (And.intro hq3 (h s' (F'.im hi)))
noncomputable def EndC (C : Addr) (K : List Ent → Prop) : List Ent → Prop := fun l => ∃ loc l', Im l ((C, nsP loc) :: l') ∧ K l'
theorem St.endC {s : Shared} {C : Addr} {loc : Loc} {h' : Heap} (F : St G s ((C, nsP loc) :: l)) (hs : Heap.SameBut C s.heap h') : St G { s with heap := h' } l :=
  F.gone (t := s.toks) .head fun b o hb e => (hs.2 b hb).trans e
theorem comp_core {e : Expr} {scope : Scope} {newAcc first : Sem Value} {g : Comprehension} {gs : List Comprehension} {use : Option (Value → Sem Unit)} {Q : Value → Shared → Prop} {s : Shared} {P : Addr → Obj → Prop} (en : En env L sc cs) (F : St G s l)
    (hcl : clausesOf e = g :: gs) (hs : ∀ x, foldedSetIterable g.iter env x = pure x) (hclo : cloOf cs scope.names [] = some cl)
    (hok : ((scope.kind == .function) && (scope.names.all fun x => x.2 != .cell) && (scope.names.all fun x => x.2 != .local || scope.names.lookup x.1 == some .local)) = true)
    (hacc : ∀ l s (Q : Value → Shared → Prop), St G s l → (∀ a s', St G s' ((a, P a) :: l) → Q (.ref a) s') → wpAny (model pw w) B.A newAcc Q NoE s)
    (h : WV B l first (qf B pyIter (fun q l => ∃ it, q = .ref it ∧ ∀ acc C cenv, En cenv C (rl scope sc) cl → WD B ((C, nsP []) :: (acc, P acc) :: l) (.compStart e 0 (.ref it) (.ref acc) cenv) (fun l₁ =>
        match use with
        | none => EndC C (fun l₂ => ∀ s, St G s l₂ → Q (.ref acc) s) l₁
        | some u => ∃ l₂, Im l₁ l₂ ∧ WU B l₂ (u (.ref acc)) (EndC C (fun l₃ => ∀ s, St G s l₃ → Q .none s)))))) :
    wpAny (model pw w) B.A (comprehension e scope env pos newAcc false first use) Q NoE s := by
  simp only [Bool.and_eq_true, beq_iff_eq] at hok
  obtain ⟨⟨hk, hcell⟩, hlo⟩ := hok
  refine wpAny_comprehension_free hcl hs (closureFor_of en.c hclo) hk (fun x hx e => ?_) (h.use F fun x p l s hp h F => (h x hp).use F fun it q l s hq h F => ?_)
  · have := List.all_eq_true.mp hlo x hx
    rw [e] at this
    simpa using this
  obtain ⟨i, rfl, h⟩ := h
  cases hq
  refine hacc l s _ F fun a s F => ?_
  refine wpAny_newFunctionEnv (fun y hy e => ?_) (fun y hy => nomatch hy) (fun h₁ hns hsb => ?_) hk
  · have := List.all_eq_true.mp hcell y hy
    rw [e] at this; exact absurd this (by decide)
  have nw : s.heap.get? s.heap.objs.size = none := by
    cases q : s.heap.get? s.heap.objs.size with
    | none => rfl
    | some o => exact absurd (Heap.lt_size q) (Nat.lt_irrefl _)
  have hkeep : ∀ b o, s.heap.get? b = some o → h₁.get? b = some o := fun b o e => hsb.extBut b o (Nat.ne_of_lt (Heap.lt_size e)) (Heap.get?_push_of_some _ e)
  have F1 : St G { s with heap := h₁, toks := s.toks + 0 } ((s.heap.objs.size, nsP []) :: (a, P a) :: l) := F.cons nw hkeep (nsP_of hns fun y => rfl)
  refine codeAny_mono (h a s.heap.objs.size { scope := relabel scope env, locals := s.heap.objs.size, globals := env.globals, cells := cl, qual := env.qual, func := none, code := env.code, frame := env.frame, builtins := env.builtins } ⟨rfl, ?_, rfl, en.g, en.b⟩ _ F1) fun r s' z => ?_
  · show relabel scope env = rl scope sc
    rw [← en.s]; rfl
  · cases r with
    | error x => exact z.elim
    | ok f =>
      obtain ⟨l₁, F', z⟩ := z
      cases use with
      | none =>
        obtain ⟨loc, l₂, hi, z⟩ := z
        have F2 := F'.im hi
        obtain ⟨mm, hn, _⟩ := F2.ns .head
        exact ⟨mm, hn, fun h' hs' => z _ (F2.endC hs')⟩
      | some u =>
        obtain ⟨l₂, hi, z⟩ := z
        refine wpAny_mono (z s' (F'.im hi)) (fun _ s'' ⟨l₃, F3, loc, l₄, hi, z⟩ => ?_) fun _ _ z => z.elim
        have F4 := F3.im hi
        obtain ⟨mm, hn, _⟩ := F4.ns .head
        exact ⟨mm, hn, fun h' hs' => z _ (F4.endC hs')⟩
theorem acc_list {A : Around} : ∀ l s (Q : Value → Shared → Prop), St G s l → (∀ a s', St G s' ((a, lst []) :: l) → Q (.ref a) s') → wpAny (model pw w) A (newList []) Q NoE s := fun l s Q F h =>
  wpAny_newObj_type (h _ _ (F.push (P := lst []) (t := s.toks) ⟨[], _, .nil, rfl⟩ rfl)) (by size_fits)
theorem acc_dict {A : Around} : ∀ l s (Q : Value → Shared → Prop), St G s l → (∀ a s', St G s' ((a, dct w []) :: l) → Q (.ref a) s') → wpAny (model pw w) A newDict Q NoE s := fun l s Q F h => by
  refine wpAny_newObj_type (h _ _ (F.push (P := dct w []) (t := s.toks) ⟨[], .nil, ?_⟩ rfl)) (by size_fits)
  obtain ⟨o, e, ho⟩ := Heap.dictOf_iff.mp (Heap.DictOf.new (knd := SK w) s.heap)
  rw [Heap.get?_push_size _ rfl] at e
  cases e
  exact ho
end
section
variable {G : Gr} {w : World} {n m : Nat} {B : Bx G w n} {l l' : List Ent} {L : Addr} {loc loc' : Loc} {env : Env} {x : Str} {pos ap ps : Pos} {k : Nat} {sc scope : Scope} {cs cl : List (Str × Addr)} {p q : Pt}
  {KV : Pt → List Ent → Prop} {KU : List Ent → Prop} {KB : Bool → List Ent → Prop} {KL : List Pt → List Ent → Prop} {KF : Fl → List Ent → Prop}
  {a b C dx : Addr} {vs us : List Pt} {r : List Stmt}
noncomputable def scOk (scope : Scope) : Bool := (scope.kind == .function) && (scope.names.all fun x => x.2 != .cell) && (scope.names.all fun x => x.2 != .local || scope.names.lookup x.1 == some .local)
noncomputable abbrev qComp (B : Bx G w n) (sc scope : Scope) (cl : List (Str × Addr)) (e : Expr) (P : Obj → Prop) (KV : Pt → List Ent → Prop) : Pt → List Ent → Prop := fun q l =>
  ∃ it, q = .ref it ∧ ∀ acc C cenv, En cenv C (rl scope sc) cl → WD B ((C, nsP []) :: (acc, P) :: l) (.compStart e 0 (.ref it) (.ref acc) cenv) (EndC C (KV (.ref acc)))
theorem k_ListComp {elt target iter : Expr} {ifs : List Expr} {gs : List Comprehension} (cl : List (Str × Addr)) (en : En env L sc cs) (hclo : cloOf cs scope.names [] = some cl) (hok : scOk scope = true)
    (h : WV B l (eval iter env) (qf B pyIter (qComp B sc scope cl (.ListComp elt (⟨target, iter, ifs, 0⟩ :: gs) scope pos) (lst []) KV)))
    (hs : ∀ x, foldedSetIterable iter env x = pure x := by intro _; rfl) : WV B l (eval (.ListComp elt (⟨target, iter, ifs, 0⟩ :: gs) scope pos) env) KV := fun s F => by
  show wpAny _ _ (comprehension (.ListComp elt (⟨target, iter, ifs, 0⟩ :: gs) scope pos) scope env _ (newList []) false (eval iter env)) _ _ s
  refine comp_core (P := fun _ => lst []) (use := none) en F rfl hs hclo hok (acc_list (A := B.A)) ?_
  refine h.mono fun p l h v hv s F => (h v hv).use F fun v p l s hp h F => ?_
  obtain ⟨it, e, h⟩ := h
  refine ⟨p, l, hp, F, it, e, fun acc C cenv en s F => codeAny_mono (h acc C cenv en s F) fun r s' z => ?_⟩
  cases r with
  | error _ => exact z
  | ok f =>
    obtain ⟨l₁, F1, loc, l₂, hi, z⟩ := z
    exact ⟨l₁, F1, loc, l₂, hi, fun s F => vi okR F z⟩
noncomputable def swOk (sc scope : Scope) (y : Str) (ln ln' : Nat) : Bool := sc.kind == .function && sc.names.lookup y == some .local && ln == ln' && !(scope.names.any fun (n, k) => n == y && (k == .local || k == .cell))
noncomputable abbrev qCompU (B : Bx G w n) (env : Env) (sc scope : Scope) (cl : List (Str × Addr)) (e : Expr) (P : Obj → Prop) (y : Str) (r : List Stmt) (KF : Fl → List Ent → Prop) : Pt → List Ent → Prop := fun q l =>
  ∃ it, q = .ref it ∧ ∀ acc C cenv, En cenv C (rl scope sc) cl → WD B ((C, nsP []) :: (acc, P) :: l) (.compStart e 0 (.ref it) (.ref acc) cenv) (fun l => WU1 B l (storeName env y) (.ref acc) (EndC C (qRest B env r KF)))
theorem bk_of {env : Env} (h : env.scope.kind = .function) : env.blockKind = .function := by
  unfold Env.blockKind; rw [h]; rfl
theorem comp_use {e : Expr} {y : Str} {newAcc first : Sem Value} {g : Comprehension} {gs : List Comprehension} {P : Obj → Prop} {s : Shared} (cl : List (Str × Addr)) (en : En env L sc cs) (hclo : cloOf cs scope.names [] = some cl) (hok : scOk scope = true) (F : St G s l)
    (hcl : clausesOf e = g :: gs) (hs : ∀ x, foldedSetIterable g.iter env x = pure x)
    (hacc : ∀ l s (Q : Value → Shared → Prop), St G s l → (∀ a s', St G s' ((a, P) :: l) → Q (.ref a) s') → wpAny (model pw w) B.A newAcc Q NoE s)
    (h : WV B l first (qf B pyIter (qCompU B env sc scope cl e P y r KF))) :
    wpAny (model pw w) B.A (comprehension e scope env pos newAcc false first (some (assign (.Name y ps) env))) (fun _ s => ∃ l, St G s l ∧ WF B l (execs r env) KF) NoE s := by
  refine comp_core (P := fun _ => P) (use := some (assign (.Name y ps) env)) en F hcl hs hclo hok hacc ?_
  refine h.mono fun p l h v hv s F => (h v hv).use F fun v p l s hp h F => ?_
  obtain ⟨it, e, h⟩ := h
  refine ⟨p, l, hp, F, it, e, fun acc C cenv en s F => codeAny_mono (h acc C cenv en s F) fun r s' z => ?_⟩
  cases r with
  | error _ => exact z
  | ok f =>
    obtain ⟨l₁, F1, z⟩ := z
    refine ⟨l₁, F1, l₁, .refl, fun s F => wpAny_assign_Name (wpAny_mono (z _ okR s F) (fun _ s' ⟨l', F', loc, l₃, hi, z⟩ => ⟨l', F', loc, l₃, hi, fun s F => ⟨_, F, z⟩⟩) fun _ _ z => z)⟩
theorem k_AsgListComp {y : Str} {elt target iter : Expr} {ifs : List Expr} {gs : List Comprehension} {spos : Pos} (cl : List (Str × Addr)) (en : En env L sc cs) (hclo : cloOf cs scope.names [] = some cl) (hok : scOk scope = true)
    (hsw : swOk sc scope y ps.line pos.line = true)
    (h : WV B l (eval iter env) (qf B pyIter (qCompU B env sc scope cl (.ListComp elt (⟨target, iter, ifs, 0⟩ :: gs) scope pos) (lst []) y r KF)))
    (hs : ∀ x, foldedSetIterable iter env x = pure x := by intro _; rfl) : WF B l (execs (.Assign [.Name y ps] (.ListComp elt (⟨target, iter, ifs, 0⟩ :: gs) scope pos) spos :: r) env) KF := .cons fun s F => by
  have hb : swapsWith (.ListComp elt (⟨target, iter, ifs, 0⟩ :: gs) scope pos) (some (.Name y ps)) spos.line env = pure true := by
    simp only [swOk, Bool.and_eq_true, beq_iff_eq] at hsw
    obtain ⟨⟨⟨a1, a2⟩, a3⟩, a4⟩ := hsw
    have k1 : env.blockKind = .function := bk_of (en.s ▸ a1)
    have k2 : env.kindOf y = some .local := by show env.scope.names.lookup y = _; rw [en.s]; exact a2
    show (do return env.blockKind == .function && env.kindOf y == some .local && ps.line == pos.line && !(scope.names.any fun (n, k) => n == y && (k == .local || k == .cell)) : Sem Bool) = _
    rw [k1, k2, a3, a4]
    simp
  rw [exec_Assign_Name_used _ _ _ _ hb]
  refine wpAny_bind (wpAny_standAt (wpAny_bind ?_))
  show wpAny _ _ (do let _ ← comprehension (.ListComp elt (⟨target, iter, ifs, 0⟩ :: gs) scope pos) scope env _ (newList []) false (eval iter env) (some (assign (.Name y ps) env))) _ _ s
  refine wpAny_bind (wpAny_mono (comp_use cl en hclo hok F rfl hs (acc_list (A := B.A)) h) (fun _ s' ⟨l', F', z⟩ => wpAny_pure (wpAny_pure (ni F' z))) fun _ _ z => z)
theorem k_AsgDictComp {y : Str} {ke ve target iter : Expr} {ifs : List Expr} {gs : List Comprehension} {spos : Pos} (cl : List (Str × Addr)) (en : En env L sc cs) (hclo : cloOf cs scope.names [] = some cl) (hok : scOk scope = true)
    (hsw : swOk sc scope y ps.line pos.line = true)
    (h : WV B l (eval iter env) (qf B pyIter (qCompU B env sc scope cl (.DictComp ke ve (⟨target, iter, ifs, 0⟩ :: gs) scope pos) (dct w []) y r KF)))
    (hs : ∀ x, foldedSetIterable iter env x = pure x := by intro _; rfl) : WF B l (execs (.Assign [.Name y ps] (.DictComp ke ve (⟨target, iter, ifs, 0⟩ :: gs) scope pos) spos :: r) env) KF := .cons fun s F => by
  have hb : swapsWith (.DictComp ke ve (⟨target, iter, ifs, 0⟩ :: gs) scope pos) (some (.Name y ps)) spos.line env = pure true := by
    simp only [swOk, Bool.and_eq_true, beq_iff_eq] at hsw
    obtain ⟨⟨⟨a1, a2⟩, a3⟩, a4⟩ := hsw
    have k1 : env.blockKind = .function := bk_of (en.s ▸ a1)
    have k2 : env.kindOf y = some .local := by show env.scope.names.lookup y = _; rw [en.s]; exact a2
    show (do return env.blockKind == .function && env.kindOf y == some .local && ps.line == pos.line && !(scope.names.any fun (n, k) => n == y && (k == .local || k == .cell)) : Sem Bool) = _
    rw [k1, k2, a3, a4]
    simp
  rw [exec_Assign_Name_used _ _ _ _ hb]
  refine wpAny_bind (wpAny_standAt (wpAny_bind ?_))
  show wpAny _ _ (do let _ ← comprehension (.DictComp ke ve (⟨target, iter, ifs, 0⟩ :: gs) scope pos) scope env _ newDict false (eval iter env) (some (assign (.Name y ps) env))) _ _ s
  refine wpAny_bind (wpAny_mono (comp_use cl en hclo hok F rfl hs (acc_dict (A := B.A)) h) (fun _ s' ⟨l', F', z⟩ => wpAny_pure (wpAny_pure (ni F' z))) fun _ _ z => z)
theorem k_AsgComp {y : Str} {elt : Expr} {gs : List Comprehension} {spos : Pos} (en : En env L sc cs) (hy : (sc.names.lookup y == some .local) = false)
    (h : WV B l (eval (.ListComp elt gs scope pos) env) (qStore B env y r KF)) : WF B l (execs (.Assign [.Name y ps] (.ListComp elt gs scope pos) spos :: r) env) KF := .cons fun s F => by
  have hb : swapsWith (.ListComp elt gs scope pos) (some (.Name y ps)) spos.line env = pure false := by
    have k2 : (env.kindOf y == some .local) = false := by show (env.scope.names.lookup y == _) = _; rw [en.s]; exact hy
    show (do return env.blockKind == .function && env.kindOf y == some .local && ps.line == pos.line && !(scope.names.any fun (n, k) => n == y && (k == .local || k == .cell)) : Sem Bool) = _
    rw [k2]
    simp
  exact wpAny_Assign_Name (h.use F fun v p l s hp h F => (h v hp).use F fun l s h F => ni F h) hb
noncomputable abbrev qEmit (B : Bx G w n) (acc : Addr) (K : List Ent → Prop) : Pt → List Ent → Prop := fun p l => WC B l (.builtin "list.append") [.ref acc, p] (fun _ => K)
theorem k_emit {elt : Expr} {acc : Addr} {K : List Ent → Prop} (h : WV B l (eval elt env) (qEmit B acc K)) : WU B l (do let _ ← call (.builtin "list.append") [.ref acc, ← eval elt env]) K := fun s F =>
  wpAny_bind (h.use F fun v p l s hp h F => wpAny_bind ((h _ (.cons okR (.cons hp .nil))).use F fun v p l s hp h F => wpAny_pure (ui F h)))
theorem k_comp1G {α : Type} {elt target iter : Expr} {ifs : List Expr} {scope : Scope} {acc : Addr} {K : List Ent → Prop} (m : Nat) (Φ : Nat → α → Prop) (Lg : Nat → α → List Ent) {it : Addr}
    (turn : ∀ k x (K' : List Ent → Prop), k < m → Φ k x → (∀ l x', Φ (k + 1) x' → Im l (Lg (k + 1) x') → K' l) →
      WN B (Lg k x) (pyNext (.ref it)) (fun o l => ∃ p, o = some p ∧ WU1 B l (asgT target env (.ref it)) p (WIfs B env ifs (fun l => WV B l (eval elt env) (qEmit B acc K')) K')))
    (stop : ∀ x, Φ m x → WN B (Lg m x) (pyNext (.ref it)) (fun o l => o = none ∧ K l)) (x₀ : α) (h0 : Φ 0 x₀) (him : Im l (Lg 0 x₀)) (hself : WV B l (pyIter (.ref it)) (fun q l' => q = .ref it ∧ Im l' l)) :
    WD B l (.compStart (.ListComp elt [⟨target, iter, ifs, 0⟩] scope pos) 0 (.ref it) (.ref acc) env) K :=
  k_compStart (d := 0) rfl ⟨fun _ => rfl, rfl, rfl⟩ hself (k_compLoopG (target := target) (pp := iter.pos) (ifs := ifs) (emit := fun kk => (do let _ ← call (.builtin "list.append") [.ref acc, ← eval elt env] : Sem Unit) >>= fun _ => kk) m Φ Lg rfl ⟨rfl, fun _ => rfl, rfl⟩
    (fun k x K' hk hx hK s F => wn_some (turn k x K' hk hx hK) F fun v p l' s' hv t F' => ⟨l', F', .inr ⟨v, p, rfl, hv, p, rfl, fun v hv s F => wpAny_mono (t v hv s F) (fun _ s' z => z.elim fun l' z => ⟨l', z.1, wifs_mono (fun _ z => .of (k_emit z)) z.2⟩) fun _ _ z => z⟩⟩) stop x₀ h0 him)
theorem k_comp1 {α : Type} {elt target iter : Expr} {ifs : List Expr} {acc : Addr} {K : List Ent → Prop} (m : Nat) (P : Nat → Obj → Prop) (item : Nat → Pt → Prop) (Φ : Nat → α → Prop) (Lg : Nat → α → List Ent)
    (src : ∀ it, Src B it m P item fun k l => ∃ x, Φ k x ∧ l = Lg k x)
    (turn : ∀ it k x p (K' : List Ent → Prop), k < m → Φ k x → item k p → (∀ l x', Φ (k + 1) x' → Im l ((it, P (k + 1)) :: Lg (k + 1) x') → K' l) →
      WU1 B ((it, P (k + 1)) :: Lg k x) (asgT target env (.ref it)) p (WIfs B env ifs (fun l => WV B l (eval elt env) (qEmit B acc K')) K'))
    (fin : ∀ x, Φ m x → K (Lg m x)) (it : Addr) (x₀ : α) (h0 : Φ 0 x₀) (him : Im l ((it, P 0) :: Lg 0 x₀)) (hself : WV B l (pyIter (.ref it)) (fun q l' => q = .ref it ∧ Im l' l)) :
    WD B l (.compStart (.ListComp elt [⟨target, iter, ifs, 0⟩] scope pos) 0 (.ref it) (.ref acc) env) K :=
  k_comp1G m Φ (fun k x => (it, P k) :: Lg k x) (fun k x K' hk hx h => (src it).next k (Lg k x) _ hk ⟨x, hx, rfl⟩ fun p hp => ⟨p, rfl, turn it k x p K' hk hx hp h⟩)
    (fun x hx => (src it).stop (Lg m x) _ ⟨x, hx, rfl⟩ ⟨rfl, fin x hx⟩) x₀ h0 him hself
theorem wifs_nil {Kt Kf : List Ent → Prop} (h : Kt l) : WIfs B env [] Kt Kf l := h
theorem wifs_one {c : Expr} {Kt Kf : List Ent → Prop} (h : WB B l (isTrue c env (eval c env)) (fun b l => (b = true → Kt l) ∧ (b = false → Kf l))) : WIfs B env [c] Kt Kf l := h
theorem k_comp2 {α : Type} {elt t1 i1 target iter : Expr} {f1 ifs : List Expr} {acc : Addr} {K : List Ent → Prop} (m : Nat) (P : Nat → Obj → Prop) (item : Nat → Pt → Prop) (Φ : Nat → α → Prop) (Lg : Nat → α → List Ent)
    (src : ∀ it, Src B it m P item fun k l => ∃ x, Φ k x ∧ l = Lg k x)
    (turn : ∀ it k x p (K' : List Ent → Prop), k < m → Φ k x → item k p → (∀ l x', Φ (k + 1) x' → Im l ((it, P (k + 1)) :: Lg (k + 1) x') → K' l) →
      WU1 B ((it, P (k + 1)) :: Lg k x) (asgT target env (.ref it)) p (WIfs B env ifs (fun l => WV B l (eval elt env) (qEmit B acc K')) K'))
    (fin : ∀ x, Φ m x → K (Lg m x)) (it : Addr) (x₀ : α) (h0 : Φ 0 x₀) (him : Im l ((it, P 0) :: Lg 0 x₀)) (hself : WV B l (pyIter (.ref it)) (fun q l' => q = .ref it ∧ Im l' l)) :
    WD B l (.compStart (.ListComp elt [⟨t1, i1, f1, 0⟩, ⟨target, iter, ifs, 0⟩] scope pos) 1 (.ref it) (.ref acc) env) K :=
  k_compStart (d := 1) rfl ⟨fun _ => rfl, rfl, rfl⟩ hself (k_compLoop (target := target) (pp := iter.pos) (ifs := ifs) (emit := fun kk => (do let _ ← call (.builtin "list.append") [.ref acc, ← eval elt env] : Sem Unit) >>= fun _ => kk) m P item Φ Lg (fun _ => rfl) (fun _ => ⟨rfl, fun _ => rfl, rfl⟩) src
    (fun it k x p K' hk hx hp hK v hv s F => wpAny_mono (turn it k x p K' hk hx hp hK v hv s F) (fun _ s' ⟨l', F', z⟩ => ⟨l', F', by
      match ifs, z with
      | [], z => exact .of (k_emit z)
      | [c], z => exact fun s F => wpAny_mono (z s F) (fun b s' ⟨l', F', z⟩ => ⟨l', F', fun e => .of (k_emit (z.1 e)), z.2⟩) fun _ _ z => z
      | _ :: _ :: _, z => exact z.elim⟩) fun _ _ z => z) fin it x₀ h0 him)
noncomputable abbrev qInner (B : Bx G w n) (env : Env) (e : Expr) (acc : Addr) (K : List Ent → Prop) : Pt → List Ent → Prop := fun q l => ∃ it, q = .ref it ∧ WD B l (.compStart e 1 (.ref it) (.ref acc) env) K
theorem k_inner {e iter : Expr} {pp : Pos} {acc : Addr} {K : List Ent → Prop} (h : WV B l (eval iter env) (qf B pyIter (qInner B env e acc K))) (hs : ∀ x, foldedSetIterable iter env x = pure x) :
    WUk B l (fun kk => do let x ← eval iter env; standAt pp; let x ← foldedSetIterable iter env x; let _ ← runOwn (.compStart e 1 (← holding [x] (pyIter x)) (.ref acc) env) env; kk) K := fun kk Q E s F k => by
  refine wpAny_bind (wpAny_mono (h s F) (fun v s' ⟨p, l, hp, F, h⟩ => wpAny_bind (wpAny_standAt (wpAny_bind (wpAny_of_eq (hs v) (wpAny_bind (wpAny_holding (wpAny_mono ((h v hp) s' F) (fun v s' ⟨p, l, hp, F, h⟩ => ?_) fun _ _ z => z.elim))))))) fun _ _ z => z.elim)
  obtain ⟨it, e1, h⟩ := h
  subst e1; cases hp
  refine wpAny_bind (wpAny_runOwn (codeAny_mono (h s' F) fun r s' z => ?_))
  cases r with
  | error _ => exact z.elim
  | ok f => obtain ⟨l', F', z⟩ := z; exact k l' s' z F'
theorem k_comp01 {α : Type} {elt target iter t2 i2 : Expr} {ifs f2 : List Expr} {acc : Addr} {K : List Ent → Prop} (m : Nat) (P : Nat → Obj → Prop) (item : Nat → Pt → Prop) (Φ : Nat → α → Prop) (Lg : Nat → α → List Ent)
    (src : ∀ it, Src B it m P item fun k l => ∃ x, Φ k x ∧ l = Lg k x)
    (turn : ∀ it k x p (K' : List Ent → Prop), k < m → Φ k x → item k p → (∀ l x', Φ (k + 1) x' → Im l ((it, P (k + 1)) :: Lg (k + 1) x') → K' l) →
      WU1 B ((it, P (k + 1)) :: Lg k x) (asgT target env (.ref it)) p (fun l => WV B l (eval i2 env) (qf B pyIter (qInner B env (.ListComp elt [⟨target, iter, [], 0⟩, ⟨t2, i2, f2, 0⟩] scope pos) acc K'))))
    (fin : ∀ x, Φ m x → K (Lg m x)) (it : Addr) (x₀ : α) (h0 : Φ 0 x₀) (him : Im l ((it, P 0) :: Lg 0 x₀)) (hself : WV B l (pyIter (.ref it)) (fun q l' => q = .ref it ∧ Im l' l))
    (hs : ∀ x, foldedSetIterable i2 env x = pure x := by intro _; rfl) :
    WD B l (.compStart (.ListComp elt [⟨target, iter, [], 0⟩, ⟨t2, i2, f2, 0⟩] scope pos) 0 (.ref it) (.ref acc) env) K :=
  k_compStart (d := 0) rfl ⟨fun _ => rfl, rfl, rfl⟩ hself (k_compLoop (target := target) (pp := iter.pos) (ifs := []) (emit := fun kk => do let x ← eval i2 env; standAt i2.pos; let x ← foldedSetIterable i2 env x; let _ ← runOwn (.compStart (.ListComp elt [⟨target, iter, [], 0⟩, ⟨t2, i2, f2, 0⟩] scope pos) 1 (← holding [x] (pyIter x)) (.ref acc) env) env; kk)
    m P item Φ Lg (fun _ => rfl) (fun _ => ⟨rfl, fun _ => rfl, rfl⟩) src
    (fun it k x p K' hk hx hp hK v hv s F => wpAny_mono (turn it k x p K' hk hx hp hK v hv s F) (fun _ s' ⟨l', F', z⟩ => ⟨l', F', k_inner z hs⟩) fun _ _ z => z) fin it x₀ h0 him)
theorem k_endC {loc : Loc} {K : List Ent → Prop} (hi : Im l ((C, nsP loc) :: l')) (h : K l') : EndC C K l := ⟨loc, l', hi, h⟩
theorem self_li {it : Addr} {j : Nat} (i : Nat) (h : gE l i = some (it, li a j)) : WV B l (pyIter (.ref it)) (fun q l' => q = .ref it ∧ Im l' l) := fun s F => by
  obtain ⟨o, e, c, d⟩ := F.get (Has.of h)
  exact wpAny_pyIter_listiter ⟨o, e, c, d⟩ (vi okR F ⟨rfl, .refl⟩)
theorem self_ti {it : Addr} {j : Nat} (i : Nat) (h : gE l i = some (it, ti a j)) : WV B l (pyIter (.ref it)) (fun q l' => q = .ref it ∧ Im l' l) := fun s F => by
  obtain ⟨o, e, c, d⟩ := F.get (Has.of h)
  exact wpAny_pyIter_tupleiter ⟨o, e, c, d⟩ (vi okR F ⟨rfl, .refl⟩)
theorem self_ri {it : Addr} {u v st : Int} (i : Nat) (h : gE l i = some (it, ri u v st)) : WV B l (pyIter (.ref it)) (fun q l' => q = .ref it ∧ Im l' l) := fun s F => by
  obtain ⟨o, e, rfl⟩ := F.get (Has.of h)
  exact wpAny_pyIter_rangeiter e (vi okR F ⟨rfl, .refl⟩)
noncomputable def dctE (w : World) (ks : List (List Nat × Pt)) (ep : Nat) : Obj → Prop := fun o => ∃ kv es, KOks ks kv ∧ o.ExactDict ∧ o.data = .dict es ep ∧ KeysOf (SK w) es ∧ Pairs (SK w) es.toList kv ∧ (kv.map (·.1)).Nodup
theorem dctE_dct {ks : List (List Nat × Pt)} {ep : Nat} : ∀ o, dctE w ks ep o → dct w ks o := fun _ ⟨kv, es, h, r⟩ => ⟨kv, h, es, ep, r⟩
noncomputable def ki (d : Addr) (n ep i : Nat) : Obj → Prop := fun o => o.cls = .type "dict_keyiterator" ∧ o.data = .fields #[.ref d, .int i 0, .int n 0, .int ep 0]
noncomputable def vli (d : Addr) (n ep i : Nat) : Obj → Prop := fun o => o.cls = .type "dict_valueiterator" ∧ o.data = .fields #[.ref d, .int i 0, .int n 0, .int ep 0]
noncomputable def dvw (d : Addr) : Obj → Prop := fun o => o.cls = .type "dict_values" ∧ o.data = .fields #[.ref d]
theorem St.dictE {s : Shared} {ks : List (List Nat × Pt)} {ep : Nat} {d : Addr} (F : St G s l) (h : Has d (dctE w ks ep) l) : ∃ kv, KOks ks kv ∧ s.heap.DictAt (SK w) d kv ep :=
  let ⟨o, e, kv, es, hk, r⟩ := F.get h; ⟨kv, hk, o, es, e, r⟩
noncomputable def IsD (G : Gr) (w : World) (l : List Ent) (a : Addr) (ks : List (List Nat × Pt)) : Prop := ∀ s, St G s l → ∃ kv, KOks ks kv ∧ s.heap.DictOf (SK w) a kv
theorem IsD.of {ks : List (List Nat × Pt)} (i : Nat) (h : gE l i = some (a, dct w ks)) : IsD G w l a ks := fun _ F => F.dict (Has.of h)
theorem IsD.ofE {ks : List (List Nat × Pt)} {ep : Nat} (i : Nat) (h : gE l i = some (a, dctE w ks ep)) : IsD G w l a ks := fun _ F => let ⟨kv, hk, d⟩ := F.dictE (Has.of h); ⟨kv, hk, d.dictOf⟩
theorem k_dgetD {value slice : Expr} {ks : List (List Nat × Pt)} {y : List Nat} (h1 : IsD G w l a ks) (hv : atK ks y = some p) (h : KV p l) : WV2 B l (subscriptTail value slice) (.ref a) (.str y) KV := fun v u hv' hu s F => by
  cases hv'
  obtain ⟨t, rfl⟩ := hu
  obtain ⟨kv, hk, hd⟩ := h1 s F
  rcases hk.at y with ⟨e, _⟩ | ⟨p', v, e, e', hp⟩
  · rw [hv] at e; cases e
  · rw [hv] at e; cases e
    exact r_tail slot_dict_getitem.lookup hd.typeIs (wpAny_getItem_of (knd := SK w) sk_is hd.mapOf e' (vi hp (F.tok _) h))
theorem k_iterD {d : Addr} {ks : List (List Nat × Pt)} (i : Nat) (hE : gE l i = some (d, dct w ks)) (h : ∀ it ep, KV (.ref it) ((it, ki d ks.length ep 0) :: sE l i (d, dctE w ks ep))) : WV1 B l pyIter (.ref d) KV := fun v hv s F => by
  cases hv
  obtain ⟨kv, hk, hd⟩ := F.dict (Has.of hE)
  obtain ⟨ep, hd⟩ := hd.dictAt
  have F2 : St G s (sE l i (d, dctE w ks ep)) := F.name (Rep.of hE) fun o e _ => let ⟨o', es, e', r⟩ := hd; by rw [e] at e'; cases e'; exact ⟨kv, es, hk, r⟩
  exact wpAny_pyIter_dict (notSys B F (Has.of hE)) hd (vi okR (F2.push (P := ki d ks.length ep 0) (t := s.toks) ⟨rfl, by rw [hk.len]; rfl⟩ rfl) (h _ _))
theorem KOks.nth {ks : List (List Nat × Pt)} {kv : List (Str × Value)} (h : KOks ks kv) : ∀ {j : Nat} {y : List Nat} {p : Pt}, ks[j]? = some (y, p) → ∃ v, kv[j]? = some (S y, v) ∧ p.ok v := by
  induction h with
  | nil => intro j y p e; simp at e
  | cons hp _ ih =>
    intro j y p e
    cases j with
    | zero => simp at e; obtain ⟨rfl, rfl⟩ := e; exact ⟨_, rfl, hp⟩
    | succ j => simpa using ih (by simpa using e)
theorem src_key {it d : Addr} {ks : List (List Nat × Pt)} {ep : Nat} {J : Nat → List Ent → Prop} (hJ : ∀ k l, J k l → Has d (dctE w ks ep) l) : Src B it ks.length (fun k => ki d ks.length ep k) (fun k p => ∃ y q, ks[k]? = some (y, q) ∧ p = .str y) J where
  next k l KN hk j h s F := by
    obtain ⟨o, e, c, x⟩ := F.get .head
    obtain ⟨kv, ok, el⟩ := F.dictE (.tail (hJ _ _ j))
    obtain ⟨⟨y, q⟩, ey⟩ : ∃ z, ks[k]? = some z := ⟨_, List.getElem?_eq_getElem hk⟩
    obtain ⟨v, e', hp⟩ := ok.nth ey
    refine wpAny_pyNext_dict_item ⟨o, e, c, by rw [ok.len]; exact x⟩ el e' fun key h' hkey ⟨o, ho, hc, hx⟩ hs => ⟨_, F.upd (P' := ki d ks.length ep (k + 1)) (t := s.toks) .head (fun b o hb e => (hs.2 b hb).trans e) ⟨o, ho, hc, by rw [ok.len] at hx; exact hx⟩, .inr ⟨_, .str y, rfl, ?_, h _ ⟨y, q, ey, rfl⟩⟩⟩
    have hk2 : PySem.Value.isStrOf (S y) key = true := hkey
    unfold PySem.Value.isStrOf at hk2
    split at hk2
    · rename_i z t
      exact ⟨t, by have : z = S y := by simpa using hk2
                   rw [this]⟩
    · cases hk2
  stop l KN j h s F := by
    obtain ⟨o, e, c, x⟩ := F.get .head
    obtain ⟨kv, ok, el⟩ := F.dictE (.tail (hJ _ _ j))
    exact wpAny_pyNext_dict_end B.hA.hh ⟨o, e, c, by rw [ok.len]; exact x⟩ el (by simp [ok.len]) fun h' hs => ⟨_, F.gone (t := s.toks) .head (fun b o hb e => hs _ _ hb e), .inl ⟨rfl, h⟩⟩
theorem src_val {it d : Addr} {ks : List (List Nat × Pt)} {ep : Nat} {J : Nat → List Ent → Prop} (hJ : ∀ k l, J k l → Has d (dctE w ks ep) l) : Src B it ks.length (fun k => vli d ks.length ep k) (fun k p => ∃ y, ks[k]? = some (y, p)) J where
  next k l KN hk j h s F := by
    obtain ⟨o, e, c, x⟩ := F.get .head
    obtain ⟨kv, ok, el⟩ := F.dictE (.tail (hJ _ _ j))
    obtain ⟨⟨y, q⟩, ey⟩ : ∃ z, ks[k]? = some z := ⟨_, List.getElem?_eq_getElem hk⟩
    obtain ⟨v, e', hp⟩ := ok.nth ey
    exact wpAny_pyNext_values_item ⟨o, e, c, by rw [ok.len]; exact x⟩ el e' fun h' ⟨o, ho, hc, hx⟩ hs => ⟨_, F.upd (P' := vli d ks.length ep (k + 1)) (t := s.toks) .head (fun b o hb e => (hs.2 b hb).trans e) ⟨o, ho, hc, by rw [ok.len] at hx; exact hx⟩, .inr ⟨_, q, rfl, hp, h _ ⟨y, ey⟩⟩⟩
  stop l KN j h s F := by
    obtain ⟨o, e, c, x⟩ := F.get .head
    obtain ⟨kv, ok, el⟩ := F.dictE (.tail (hJ _ _ j))
    exact wpAny_pyNext_values_end B.hA.hh ⟨o, e, c, by rw [ok.len]; exact x⟩ el (by simp [ok.len]) fun h' hs => ⟨_, F.gone (t := s.toks) .head (fun b o hb e => hs _ _ hb e), .inl ⟨rfl, h⟩⟩
theorem self_ki {it d : Addr} {nn ep j : Nat} (i : Nat) (h : gE l i = some (it, ki d nn ep j)) : WV B l (pyIter (.ref it)) (fun q l' => q = .ref it ∧ Im l' l) := fun s F => by
  obtain ⟨o, e, c, d⟩ := F.get (Has.of h)
  exact wpAny_pyIter_keyiter ⟨o, e, c, d⟩ (vi okR F ⟨rfl, .refl⟩)
theorem self_vi {it d : Addr} {nn ep j : Nat} (i : Nat) (h : gE l i = some (it, vli d nn ep j)) : WV B l (pyIter (.ref it)) (fun q l' => q = .ref it ∧ Im l' l) := fun s F => by
  obtain ⟨o, e, c, d⟩ := F.get (Has.of h)
  exact wpAny_pyIter_valiter ⟨o, e, c, d⟩ (vi okR F ⟨rfl, .refl⟩)
theorem c_dvalues {ks : List (List Nat × Pt)} (j : Nat) (h1 : gE l j = some (a, dct w ks)) (h : ∀ v, KV (.ref v) ((v, dvw a) :: l)) : WC B l (.builtin "dict.values") [.ref a] KV := on1 fun v s hv F => by
  cases hv
  obtain ⟨kv, hk, hd⟩ := F.dict (Has.of h1)
  exact call_meetsIn PySem.F.slot_dict_values hd.typeIs PySem.F.entry_dict_values (PySem.F.args_dict_values_1 _) (meets_dict_values (SK w) a (notSys B F (Has.of h1))) ⟨⟨kv, hd⟩, vi okR (F.push (P := dvw a) (t := s.toks) ⟨rfl, rfl⟩ rfl) (h _)⟩
theorem k_iterDV {d v : Addr} {ks : List (List Nat × Pt)} (i j : Nat) (hv : gE l j = some (v, dvw d)) (hE : gE l i = some (d, dct w ks)) (h : ∀ it ep, KV (.ref it) ((it, vli d ks.length ep 0) :: sE l i (d, dctE w ks ep))) : WV1 B l pyIter (.ref v) KV := fun u hu s F => by
  cases hu
  obtain ⟨ov, ev, cv, dv⟩ := F.get (Has.of hv)
  obtain ⟨kv, hk, hd⟩ := F.dict (Has.of hE)
  obtain ⟨ep, hd⟩ := hd.dictAt
  have F2 : St G s (sE l i (d, dctE w ks ep)) := F.name (Rep.of hE) fun o e _ => let ⟨o', es, e', r⟩ := hd; by rw [e] at e'; cases e'; exact ⟨kv, es, hk, r⟩
  exact wpAny_pyIter_values ⟨ov, ev, cv, dv⟩ hd (vi okR (F2.push (P := vli d ks.length ep 0) (t := s.toks) ⟨rfl, by rw [hk.len]; rfl⟩ rfl) (h _ _))
end
theorem slot_li_ga : Slot "list_iterator" "__getattribute__" "object.__getattribute__" :=
  .of (owner := "object") (n := "__getattribute__") (by rw [typeLookup_type, builtinLookup_eq_fast]; kernel_rfl) (by decide +kernel) (by decide +kernel) (by decide +kernel)
    (by first | exact .inl (by decide +kernel) | exact .inr (by decide +kernel)) (by rw [isSubtype_type]; kernel_rfl)
theorem slot_wd_get : Slot "wrapper_descriptor" "__get__" "wrapper_descriptor.__get__" :=
  .of (owner := "wrapper_descriptor") (n := "__get__") (by rw [typeLookup_type, builtinLookup_eq_fast]; kernel_rfl) (by decide +kernel) (by decide +kernel) (by decide +kernel)
    (by first | exact .inl (by decide +kernel) | exact .inr (by decide +kernel)) (by rw [isSubtype_type]; kernel_rfl)
theorem wd_set : typeLookup (.type "wrapper_descriptor") "__set__" = pure none := by rw [typeLookup_type, builtinLookup_eq_fast]; kernel_rfl
theorem wd_delete : typeLookup (.type "wrapper_descriptor") "__delete__" = pure none := by rw [typeLookup_type, builtinLookup_eq_fast]; kernel_rfl
theorem type_li_next : typeOf (.builtin "list_iterator.__next__") = pure (.type "wrapper_descriptor") := by show builtinType _ = _; rw [builtinType_eq_fast]; kernel_rfl
theorem entry_obj_ga : entryFor table "object.__getattribute__" = some Builtin.«object.__getattribute__» := entryFor_of_fast (by kernel_rfl)
theorem entry_wd_get : entryFor table "wrapper_descriptor.__get__" = some Builtin.«wrapper_descriptor.__get__» := entryFor_of_fast (by kernel_rfl)
theorem args_obj_ga (a b : Value) : argsOk "object.__getattribute__" ⟨[a, b], []⟩ := by unfold argsOk; kernel_rfl
theorem args_wd_get (a b c : Value) : argsOk "wrapper_descriptor.__get__" ⟨[a, b, c], []⟩ := by unfold argsOk; kernel_rfl
theorem sub_li : isSubtype (.type "list_iterator") (.type "list_iterator") = pure true := by rw [isSubtype_type]; kernel_rfl
noncomputable abbrev mwObj (a : Addr) : Obj := { cls := .type "method-wrapper", data := .fields #[.builtin "list_iterator.__next__", .ref a] }
theorem run_wd_get {prog : Program} {w : World} {A : Around} {s : Shared} {a : Addr} {E : Value → Shared → Prop} {Q : Fin → Shared → Prop} {x : Value} (hT : s.TypeIs (.ref a) "list_iterator")
    (h : Q (.done (.ret (.ref s.heap.objs.size))) { s with heap := s.heap.push (mwObj a) }) : wpAny (model prog w) A (Builtin.«wrapper_descriptor.__get__» ⟨[.builtin "list_iterator.__next__", .ref a, x], []⟩) Q E s := by
  have f1 := sub_li
  unfold Builtin.«wrapper_descriptor.__get__»
  repeat (any_goals (first | assumption | wp_step))
  refine wpAny_of_eq (show isSubtype (.type "list_iterator") (.type (".".intercalate ("list_iterator.__next__".cutAt '.').dropLast)) = pure true by rw [isSubtype_type]; kernel_rfl) ?_
  simp only [Bool.not_true, Bool.false_eq_true, if_false]
  refine wpAny_pure ?_
  exact wpAny_bind (wpAny_newObj_type (wpAny_pure h) (by size_fits))
theorem run_obj_ga {prog : Program} {w : World} {A : Around} {s : Shared} {a l : Addr} {i : Int} {E : Value → Shared → Prop} {Q : Fin → Shared → Prop} {u t : Tok} {ol : Obj} (ho : s.heap.get? a = some ol) (hc : ol.cls = .type "list_iterator") (hd : ol.data = .fields #[.ref l, .int i t]) (hdi : ol.dict = none)
    (h : Q (.done (.ret (.ref s.heap.objs.size))) { s with heap := s.heap.push (mwObj a) }) : wpAny (model prog w) A (Builtin.«object.__getattribute__» ⟨[.ref a, .str "__next__" u], []⟩) Q E s := by
  have hT : s.TypeIs (.ref a) "list_iterator" := ⟨_, ho, hc⟩
  have f1 := type_li_next
  have f2 := slot_listiter_next.lookup
  have f3 := slot_wd_get.lookup
  have f4 := wd_set
  have f5 := wd_delete
  obtain ⟨c, d, dt, sl⟩ := ol
  dsimp only at hc hd hdi
  subst hc hd hdi
  unfold Builtin.«object.__getattribute__»
  repeat (any_goals (first | assumption | ((with_reducible show wpAny _ _ (call (Value.builtin "wrapper_descriptor.__get__") _ _) _ _ _); refine wpAny_call_entry slot_wd_get type_li_next entry_wd_get (run_wd_get hT ⟨_, rfl, ?_⟩) (args_wd_get _ _ _)) | wp_step))
theorem li_getattr_none : typeLookup (.type "list_iterator") "__getattr__" = pure none := by rw [typeLookup_type, builtinLookup_eq_fast]; kernel_rfl
theorem getAttr_next {prog : Program} {w : World} {A : Around} {s : Shared} {a l : Addr} {i : Int} {E : Value → Shared → Prop} {Q : Value → Shared → Prop} {t : Tok} {ol : Obj} (ho : s.heap.get? a = some ol) (hc : ol.cls = .type "list_iterator") (hd : ol.data = .fields #[.ref l, .int i t]) (hdi : ol.dict = none)
    (h : Q (.ref s.heap.objs.size) { s with heap := s.heap.push (mwObj a), toks := s.toks + 1 }) : wpAny (model prog w) A (getAttr (.ref a) "__next__" true) Q E s := by
  obtain ⟨hp, g, d, tk, os⟩ := s
  obtain ⟨c, d, dt, sl⟩ := ol
  dsimp only at hc hd hdi
  subst hc hd hdi
  have hT : ∀ tk', (⟨hp, g, d, tk', os⟩ : Shared).TypeIs (.ref a) "list_iterator" := fun _ => ⟨_, ho, rfl⟩
  have f3 := slot_li_ga.lookup
  have f4 := slot_li_ga.bind (.ref a)
  have f5 := li_getattr_none
  unfold getAttr getAttrBy
  repeat (any_goals (first | assumption | exact hT _ | ((with_reducible show wpAny _ _ (call (Value.builtin "object.__getattribute__") _ _) _ _ _); refine wpAny_call_entry slot_li_ga (hT _) entry_obj_ga (run_obj_ga ho rfl rfl rfl ⟨_, rfl, ?_⟩) (args_obj_ga _ _)) | wp_step))
noncomputable def zpE (TI TO : Addr) (f0 : Value) : Obj → Prop := fun o => o = { cls := .type "zip", dict := none, data := .fields #[f0, .bool false, .bool false, .ref TI, .ref TO], slots := #[] }
noncomputable def prE (a b : Value) : Obj → Prop := fun o => o = { cls := .type "tuple", data := .seq #[a, b] }
noncomputable def prA : Obj → Prop := fun o => ∃ a b, o = { cls := .type "tuple", data := .seq #[a, b] }
noncomputable def sit (y : List Nat) (k : Nat) : Obj → Prop := fun o => ∃ t, o.cls = .type "str_ascii_iterator" ∧ o.data = .fields #[.str (S y) t, .int k 0]
section
variable {G : Gr} {w : World} {n : Nat} {B : Bx G w n} {l l' : List Ent} {KV : Pt → List Ent → Prop} {z TI TO i1 i2 : Addr} {y1 y2 : List Nat} {k c d : Nat} {s : Shared} {A : Around} {E : Value → Shared → Prop}
theorem St.setF {a : Addr} {cls : Value} {vs : Array Value} {j : Nat} {x : Value} {P' : Obj → Prop} {Q : Unit → Shared → Prop} (F : St G s l) (h : Rep a (fun o => o = { cls := cls, dict := none, data := .fields vs, slots := #[] }) P' l l') (hj : j < vs.size) (hP : P' { cls := cls, dict := none, data := .fields (vs.setIfInBounds j x), slots := #[] })
    (k : ∀ s', St G s' l' → s'.heap.objs.size = s.heap.objs.size → Q () s') : wpAny (model pw w) A (setField (.ref a) j x) Q E s := by
  obtain ⟨o, e, rfl⟩ := F.get h.has
  exact wpAny_setField_rec e hj fun h' e' hs => k _ (F.upd (t := s.toks) h (fun b o hb q => (hs.2 b hb).trans q) ⟨_, e', hP⟩) hs.1
theorem St.setP {a : Addr} {j : Nat} {x : Value} {P' : Obj → Prop} {Q : Unit → Shared → Prop} {u v : Value} (F : St G s l) (h : Rep a (prE u v) P' l l') (hP : P' { cls := .type "tuple", data := .seq ((#[u, v] : Array Value).setIfInBounds j x) })
    (k : ∀ s', St G s' l' → s'.heap.objs.size = s.heap.objs.size → Q () s') : wpAny (model pw w) A (updateSeq a (·.setIfInBounds j x)) Q E s := by
  obtain ⟨o, e, rfl⟩ := F.get h.has
  exact wpAny_updateSeq_pair e fun h' e' hs => k _ (F.upd (t := s.toks) h (fun b o hb q => (hs.2 b hb).trans q) ⟨_, e', hP⟩) hs.1
theorem St.nextS {i : Addr} {y : List Nat} {Q : Value → Shared → Prop} (F : St G s l) (h : Rep i (sit y k) (sit y (k + 1)) l l') (hc : y[k]? = some c) (q : ∀ t s', St G s' l' → s'.heap.objs.size = s.heap.objs.size → Q (.str (S [c]) t) s') :
    wpAny (model pw w) A (Builtin.SmallTypes.nextOf (.ref i)) Q E s := by
  obtain ⟨o, e, t, h1, h2⟩ := F.get h.has
  refine wpAny_nextOf_ascii_item (c := c) ⟨o, e, h1, h2⟩ (by simpa using hc) fun h' ⟨o', e', h1', h2'⟩ hs => ?_
  exact q s.toks _ (F.upd (t := s.toks + 1) h (fun b o hb q => (hs.2 b hb).trans q) ⟨o', e', t, h1', h2'⟩) hs.1
noncomputable abbrev zpL (z TI TO i1 i2 : Addr) (y1 y2 : List Nat) (f0 : Value) (k1 k2 : Nat) (l : List Ent) : List Ent := (z, zpE TI TO f0) :: (TI, prE (.ref i1) (.ref i2)) :: (TO, prA) :: (i1, sit y1 k1) :: (i2, sit y2 k2) :: l
theorem zip_item {Q : Option Value → Shared → Prop} (F : St G s (zpL z TI TO i1 i2 y1 y2 .none k k l)) (h1 : y1[k]? = some c) (h2 : y2[k]? = some d)
    (q : ∀ T s', St G s' ((T, tup [.str [c], .str [d]]) :: zpL z TI TO i1 i2 y1 y2 (rawInt T) (k + 1) (k + 1) l) → Q (some (.ref T)) s') : wpAny (model pw w) A (pyNext (.ref z)) Q E s := by
  obtain ⟨_, ez, rfl⟩ := F.get .head
  have hT : s.TypeIs (.ref z) "zip" := ⟨_, ez, rfl⟩
  obtain ⟨_, eI, rfl⟩ := F.get (.tail .head)
  unfold pyNext
  refine wpAny_bind (wpAny_attempt (wpAny_callSpecial?_slot (name := Str.ofString "__next__") hT PySem.F.slot_zip_next
    (wpAny_call_entry PySem.F.slot_zip_next hT PySem.F.entry_zip_next ?_ (PySem.F.args_zip_next_1 _))))
  show wpAny _ _ (field (.ref z) 2 >>= _) _ _ _
  refine wpAny_bind (wpAny_field ez rfl (x := .bool false) rfl ?_)
  show wpAny _ _ (field (.ref z) 3 >>= _) _ _ _
  refine wpAny_bind (wpAny_field ez rfl (x := .ref TI) rfl ?_)
  refine wpAny_bind (wpAny_seqItems eI rfl ?_)
  show wpAny _ _ (Builtin.SmallTypes.ownedTupleIsFree (.ref z) >>= _) _ _ _
  refine wpAny_bind ?_
  unfold Builtin.SmallTypes.ownedTupleIsFree
  refine wpAny_bind (wpAny_field ez rfl (x := .none) rfl (wpAny_pure ?_))
  simp only [if_true]
  refine wpAny_bind (wpAny_rule ?_)
  refine wpAny_bind (wpAny_field ez rfl (x := .ref TO) rfl ?_)
  refine wpAny_bind (F.setF (P' := zpE TI TO .ellipsis) .head (by simp) rfl fun s1 F1 z1 => ?_)
  refine wpAny_bind ?_
  simp only [List.zipIdx_cons, List.zipIdx_nil, List.forIn_cons, List.forIn_nil]
  refine wpAny_bind (wpAny_bind (wpAny_onRaise ?_))
  show wpAny _ _ (Builtin.SmallTypes.nextOf (.ref i1) >>= _) _ _ _
  refine wpAny_bind (F1.nextS (.tail (.tail (.tail .head))) h1 fun t1 s2 F2 z2 => wpAny_pure ?_)
  obtain ⟨_, eO, a, b, rfl⟩ := F2.get (.tail (.tail .head))
  refine wpAny_bind (wpAny_seqItems eO rfl ?_)
  have F2' : St G s2 ((z, zpE TI TO .ellipsis) :: (TI, prE (.ref i1) (.ref i2)) :: (TO, prE a b) :: (i1, sit y1 (k + 1)) :: (i2, sit y2 k) :: l) := F2.name (.tail (.tail .head)) fun o e _ => by rw [eO] at e; cases e; rfl
  refine wpAny_bind (F2'.setP (P' := prE (.str (S [c]) t1) b) (.tail (.tail .head)) rfl fun s3 F3 z3 => ?_)
  refine wpAny_bind (wpAny_letGo (wpAny_pure ?_))
  refine wpAny_bind (wpAny_bind (wpAny_onRaise ?_))
  show wpAny _ _ (Builtin.SmallTypes.nextOf (.ref i2) >>= _) _ _ _
  refine wpAny_bind (F3.nextS (.tail (.tail (.tail (.tail .head)))) h2 fun t2 s4 F4 z4 => wpAny_pure ?_)
  obtain ⟨_, eO4, rfl⟩ := F4.get (.tail (.tail .head))
  refine wpAny_bind (wpAny_seqItems eO4 rfl ?_)
  refine wpAny_bind (F4.setP (P' := prE (.str (S [c]) t1) (.str (S [d]) t2)) (.tail (.tail .head)) rfl fun s5 F5 z5 => ?_)
  refine wpAny_bind (wpAny_letGo (wpAny_pure (wpAny_pure ?_)))
  obtain ⟨_, eO5, rfl⟩ := F5.get (.tail (.tail .head))
  refine wpAny_bind (wpAny_seqItems eO5 rfl ?_)
  refine wpAny_bind (wpAny_newTuple ?_)
  have F6 := F5.push (P := tup [.str [c], .str [d]]) (t := s5.toks) (o := { cls := .type "tuple", data := .seq #[.str (S [c]) t1, .str (S [d]) t2] }) ⟨[.str (S [c]) t1, .str (S [d]) t2], 0, .cons ⟨_, rfl⟩ (.cons ⟨_, rfl⟩ .nil), rfl⟩ rfl
  show wpAny _ _ (Builtin.SmallTypes.ownedTupleHandOut (.ref z) (.ref s5.heap.objs.size) >>= _) _ _ _
  refine wpAny_bind ?_
  unfold Builtin.SmallTypes.ownedTupleHandOut
  refine wpAny_bind (F6.setF (P' := zpE TI TO (rawInt s5.heap.objs.size)) (.tail .head) (by simp) rfl fun s7 F7 z7 => ?_)
  refine F7.setF (P' := zpE TI TO (rawInt s5.heap.objs.size)) (.tail .head) (by simp) rfl fun s8 F8 z8 => ?_
  exact wpAny_pure ⟨_, rfl, wpAny_pure (q _ _ (F8.weak (P' := prA) (.tail (.tail (.tail .head))) fun o h => ⟨_, _, h⟩))⟩
end
section
variable {G : Gr} {w : World} {n m : Nat} {B : Bx G w n} {l l' : List Ent} {KV : Pt → List Ent → Prop} {KU : List Ent → Prop} {z TI TO i1 i2 : Addr} {y1 y2 : List Nat} {k c d : Nat} {s : Shared} {A : Around} {E : Value → Shared → Prop} {env : Env} {pos ps : Pos}
theorem zip_set {e : Addr} {oe : Obj} {Q : Unit → Shared → Prop} (F : St G s ((z, zpE TI TO .ellipsis) :: l)) (he : s.heap.get? e = some oe) (hc : oe.cls = .type "StopIteration")
    (k : ∀ s', St G s' l → s'.heap.get? e = some oe → Q () s') : wpAny (model pw w) A (setField (.ref z) 0 .none) Q E s := by
  obtain ⟨_, ez, rfl⟩ := F.get .head
  have hne : e ≠ z := fun x => by subst x; rw [ez] at he; cases he; simp at hc
  exact wpAny_setField_rec ez (by simp) fun h' e' hs => k _ (F.gone (t := s.toks) .head fun b o hb q => (hs.2 b hb).trans q) ((hs.2 e hne).trans he)
theorem St.endS {i : Addr} {y : List Nat} {Q : Value → Shared → Prop} (hh : A.handled = none) (F : St G s l) (h : Has i (sit y k) l) (hd : Del i l l') (hc : y[k]? = none)
    (q : ∀ e oe s', St G s' l' → s'.heap.get? e = some oe → oe.cls = .type "StopIteration" → E (.ref e) s') : wpAny (model pw w) A (Builtin.SmallTypes.nextOf (.ref i)) Q E s := by
  obtain ⟨o, e, t, h1, h2⟩ := F.get h
  refine wpAny_nextOf_ascii_end hh ⟨o, e, h1, h2⟩ (by simpa using hc) fun h' e2 hs ⟨oe, he, hce⟩ => ?_
  exact q e2 oe _ (F.gone (t := s.toks) hd hs) he hce
theorem zip_end {Q : Option Value → Shared → Prop} (hh : A.handled = none) (F : St G s (zpL z TI TO i1 i2 y1 y2 .none k k l)) (hend : y1[k]? = none ∨ y2[k]? = none)
    (q : ∀ s', St G s' l → Q none s') : wpAny (model pw w) A (pyNext (.ref z)) Q E s := by
  obtain ⟨_, ez, rfl⟩ := F.get .head
  have hT : s.TypeIs (.ref z) "zip" := ⟨_, ez, rfl⟩
  obtain ⟨_, eI, rfl⟩ := F.get (.tail .head)
  unfold pyNext
  refine wpAny_bind (wpAny_attempt (wpAny_callSpecial?_slot (name := Str.ofString "__next__") hT PySem.F.slot_zip_next
    (wpAny_call_entry PySem.F.slot_zip_next hT PySem.F.entry_zip_next ?_ (PySem.F.args_zip_next_1 _))))
  have fin : ∀ e oe s', St G s' l → s'.heap.get? e = some oe → oe.cls = .type "StopIteration" → wpAny (model pw w) A (do if ← isInstance (.ref e) (.type "StopIteration") then pure (none : Option Value) else throw (.ref e)) Q E s' := fun e oe s' F' he hc =>
    wpAny_bind (wpAny_isInstance (T := "StopIteration") (b := true) ⟨oe, he, hc⟩ isSubtype_stop (wpAny_pure (q _ F')))
  show wpAny _ _ (field (.ref z) 2 >>= _) _ _ _
  refine wpAny_bind (wpAny_field ez rfl (x := .bool false) rfl ?_)
  show wpAny _ _ (field (.ref z) 3 >>= _) _ _ _
  refine wpAny_bind (wpAny_field ez rfl (x := .ref TI) rfl ?_)
  refine wpAny_bind (wpAny_seqItems eI rfl ?_)
  show wpAny _ _ (Builtin.SmallTypes.ownedTupleIsFree (.ref z) >>= _) _ _ _
  refine wpAny_bind ?_
  unfold Builtin.SmallTypes.ownedTupleIsFree
  refine wpAny_bind (wpAny_field ez rfl (x := .none) rfl (wpAny_pure ?_))
  simp only [if_true]
  refine wpAny_bind (wpAny_rule ?_)
  refine wpAny_bind (wpAny_field ez rfl (x := .ref TO) rfl ?_)
  refine wpAny_bind (F.setF (P' := zpE TI TO .ellipsis) .head (by simp) rfl fun s1 F1 z1 => ?_)
  refine wpAny_bind ?_
  simp only [List.zipIdx_cons, List.zipIdx_nil, List.forIn_cons, List.forIn_nil]
  refine wpAny_bind (wpAny_bind (wpAny_onRaise ?_))
  show wpAny _ _ (Builtin.SmallTypes.nextOf (.ref i1) >>= _) _ _ _
  cases h1 : y1[k]? with
  | none =>
    refine wpAny_bind (F1.endS (l' := (z, zpE TI TO .ellipsis) :: (TI, prE (.ref i1) (.ref i2)) :: (TO, prA) :: (i2, sit y2 k) :: l) hh (.tail (.tail (.tail .head))) (.tail (.tail (.tail .head))) h1 fun e oe s2 F2 he hc => ?_)
    exact zip_set F2 he hc fun s3 F3 he => fin e oe s3 F3.drop.drop.drop he hc
  | some c =>
    have h2 : y2[k]? = none := by rcases hend with h | h; rw [h1] at h; cases h; exact h
    refine wpAny_bind (F1.nextS (.tail (.tail (.tail .head))) h1 fun t1 s2 F2 z2 => wpAny_pure ?_)
    obtain ⟨_, eO, a, b, rfl⟩ := F2.get (.tail (.tail .head))
    refine wpAny_bind (wpAny_seqItems eO rfl ?_)
    have F2' : St G s2 ((z, zpE TI TO .ellipsis) :: (TI, prE (.ref i1) (.ref i2)) :: (TO, prE a b) :: (i1, sit y1 (k + 1)) :: (i2, sit y2 k) :: l) := F2.name (.tail (.tail .head)) fun o e _ => by rw [eO] at e; cases e; rfl
    refine wpAny_bind (F2'.setP (P' := prE (.str (S [c]) t1) b) (.tail (.tail .head)) rfl fun s3 F3 z3 => ?_)
    refine wpAny_bind (wpAny_letGo (wpAny_pure ?_))
    refine wpAny_bind (wpAny_bind (wpAny_onRaise ?_))
    show wpAny _ _ (Builtin.SmallTypes.nextOf (.ref i2) >>= _) _ _ _
    refine wpAny_bind (F3.endS (l' := (z, zpE TI TO .ellipsis) :: (TI, prE (.ref i1) (.ref i2)) :: (TO, prE (.str (S [c]) t1) b) :: (i1, sit y1 (k + 1)) :: l) hh (.tail (.tail (.tail (.tail .head)))) (.tail (.tail (.tail (.tail .head)))) h2 fun e oe s4 F4 he hc => ?_)
    exact zip_set F4 he hc fun s5 F5 he => fin e oe s5 F5.drop.drop.drop he hc
noncomputable def WIO (B : Bx G w n) : List (Value → Sem Unit) → List Pt → (List Ent → Prop) → List Ent → Prop
  | [], [], K, l => K l
  | f :: fs, p :: ps, K, l => WU1 B l f p (WIO B fs ps K)
  | _, _, _, _ => False
theorem wio_run {fs : List (Value → Sem Unit)} : ∀ {ps : List Pt} {vs : List Value} {l : List Ent} {s : Shared}, WIO B fs ps KU l → Oks ps vs → St G s l → wpAny (model pw w) B.A (assignInOrder fs vs) (fun _ s' => ∃ l', St G s' l' ∧ KU l') NoE s := by
  induction fs with
  | nil =>
    intro ps vs l s h ho F
    cases ho with
    | nil => exact wpAny_pure ⟨l, F, h⟩
    | cons => exact h.elim
  | cons f fs ih =>
    intro ps vs l s h ho F
    cases ho with
    | nil => exact h.elim
    | cons hp ho => exact wpAny_bind (wpAny_holding (wpAny_mono (h _ hp s F) (fun _ s' ⟨l', F', z⟩ => ih z ho F') fun _ _ z => z))
theorem k_asgTup {elts : List Expr} {x1} {T : Addr} {us : List Pt} (hT : Has T (tup us) l) (hn : (assignEach elts env).length = us.length) (hs : (assignEach elts env).findIdx? (·.1) = none)
    (h : WIO B ((assignEach elts env).map (·.2)) us KU l) : WU1 B l (assign (.Tuple elts x1 pos) env) (.ref T) KU := fun v hv s F => by
  cases hv
  obtain ⟨vs, nn, ho, e⟩ := F.trec hT
  refine wpAny_assign_Tuple B.hA.hh ⟨_, e, rfl, nn, rfl⟩ (by rw [hn, List.size_toArray, ho.len]) hs fun h' hs' => ?_
  exact wio_run h ho (F.keep (t := s.toks) fun b o q => hs' b o (Nat.ne_of_lt (Heap.lt_size q)) q)
theorem k_asgZip {elts : List Expr} {x1} {T : Addr} {k1 k2 : Nat} (h : WU1 B (zpL z TI TO i1 i2 y1 y2 .none k1 k2 l) (assign (.Tuple elts x1 pos) env) (.ref T) KU) :
    WU1 B (zpL z TI TO i1 i2 y1 y2 (rawInt T) k1 k2 l) (asgT (.Tuple elts x1 pos) env (.ref z)) (.ref T) KU := fun v hv s F => by
  cases hv
  obtain ⟨_, ez, rfl⟩ := F.get .head
  show wpAny _ _ (letOwnedTupleGo (.Tuple elts x1 pos) (.ref z) (.ref T) >>= fun _ => assign (.Tuple elts x1 pos) env (.ref T)) _ _ s
  exact wpAny_bind (wpAny_letOwnedTupleGo_zip ez fun h' e' hs => h _ okR _ (F.upd (t := s.toks) (P' := zpE TI TO .none) .head (fun b o hb q => (hs.2 b hb).trans q) ⟨_, e', rfl⟩))
theorem self_zip {f0 : Value} (h : KV (.ref z) ((z, zpE TI TO f0) :: l)) : WV B ((z, zpE TI TO f0) :: l) (pyIter (.ref z)) KV := fun s F => by
  obtain ⟨_, ez, rfl⟩ := F.get .head
  exact wpAny_pyIter_zip ez (vi okR F h)
theorem n_zip {Q : Option Pt → List Ent → Prop} (h1 : y1[k]? = some c) (h2 : y2[k]? = some d)
    (q : ∀ T, Q (some (.ref T)) ((T, tup [.str [c], .str [d]]) :: zpL z TI TO i1 i2 y1 y2 (rawInt T) (k + 1) (k + 1) l)) : WN B (zpL z TI TO i1 i2 y1 y2 .none k k l) (pyNext (.ref z)) Q := fun s F =>
  zip_item F h1 h2 fun T s' F' => ⟨_, F', .inr ⟨_, _, rfl, okR, q T⟩⟩
theorem n_zipEnd {Q : Option Pt → List Ent → Prop} (hend : y1[k]? = none ∨ y2[k]? = none) (q : Q none l) : WN B (zpL z TI TO i1 i2 y1 y2 .none k k l) (pyNext (.ref z)) Q := fun s F =>
  zip_end B.hA.hh F hend fun s' F' => ⟨_, F', .inl ⟨rfl, q⟩⟩
end
noncomputable abbrev zs1 (h : Heap) (x : Str) (t : Tok) : Heap := h.push { cls := .type "str_ascii_iterator", data := .fields #[.str x t, .int 0 0] }
noncomputable abbrev zs2 (h : Heap) (x : Str) (t : Tok) (y : Str) (u : Tok) : Heap := (zs1 h x t).push { cls := .type "str_ascii_iterator", data := .fields #[.str y u, .int 0 0] }
noncomputable abbrev zs3 (h : Heap) (x : Str) (t : Tok) (y : Str) (u : Tok) : Heap := (zs2 h x t y u).push { cls := .type "tuple", data := .seq #[.ref h.objs.size, .ref (zs1 h x t).objs.size] }
noncomputable abbrev zs4 (h : Heap) (x : Str) (t : Tok) (y : Str) (u : Tok) : Heap := (zs3 h x t y u).push { cls := .type "tuple", data := .seq #[.none, .none] }
noncomputable abbrev zs5 (h : Heap) (x : Str) (t : Tok) (y : Str) (u : Tok) : Heap := (zs4 h x t y u).push { cls := .type "zip", data := .fields #[.none, .bool false, .bool false, .ref (zs2 h x t y u).objs.size, .ref (zs3 h x t y u).objs.size] }
set_option maxRecDepth 512 in
set_option maxHeartbeats 2000000 in
theorem meets_zipS (x y : Str) (t u : Tok) (hx : x.cps.all (· < 128) = true) (hy : y.cps.all (· < 128) = true) :
    Meets (Builtin.«zip.__new__» ⟨[.type "zip", .str x t, .str y u], []⟩) (fun _ R s => R (.ok (.ret (.ref (zs4 s.heap x t y u).objs.size))) { s with heap := zs5 s.heap x t y u }) :=
  .of_wp fun prog w A R s h => by
    obtain ⟨hp, g, d, tk, os⟩ := s
    have hsub := sub_zip
    wp_walk using wpAny_pyIter_ascii hx, wpAny_pyIter_ascii hy
    exact ⟨_, rfl, h⟩
section
variable {G : Gr} {w : World} {n m : Nat} {B : Bx G w n} {l l' : List Ent} {KV : Pt → List Ent → Prop} {s : Shared} {y1 y2 : List Nat}
noncomputable def asc (y : List Nat) : Bool := y.all (· < 128)
theorem asc_S {y : List Nat} (h : asc y = true) : (S y).cps.all (· < 128) = true := by simpa [asc] using h
theorem c_zip (h1 : asc y1 = true) (h2 : asc y2 = true) (h : ∀ z TI TO i1 i2, KV (.ref z) (zpL z TI TO i1 i2 y1 y2 .none 0 0 l)) : WC B l (.type "zip") [.str y1, .str y2] KV := fun vs ho s F => by
  obtain ⟨t, _, u, _, rfl⟩ : ∃ t, True ∧ ∃ u, True ∧ vs = [.str (S y1) t, .str (S y2) u] := by
    cases ho with
    | cons a ho =>
      cases ho with
      | cons b ho =>
        cases ho
        obtain ⟨t, rfl⟩ := a
        obtain ⟨u, rfl⟩ := b
        exact ⟨t, trivial, u, trivial, rfl⟩
  refine callType_new PySem.F.called_zip (by decide) (by kernel_rfl) (by kernel_rfl) (fun obj => PySem.F.args_object_init_3 obj _ _) PySem.F.entry_zip_new (meets_zipS (S y1) (S y2) t u (asc_S h1) (asc_S h2)) ?_
  have F1 := F.push (P := sit y1 0) (t := s.toks) (o := { cls := .type "str_ascii_iterator", data := .fields #[.str (S y1) t, .int 0 0] }) ⟨t, rfl, rfl⟩ rfl
  have F2 := F1.push (P := sit y2 0) (t := s.toks) (o := { cls := .type "str_ascii_iterator", data := .fields #[.str (S y2) u, .int 0 0] }) ⟨u, rfl, rfl⟩ rfl
  have F3 := F2.swap.push (P := prE (.ref s.heap.objs.size) (.ref (zs1 s.heap (S y1) t).objs.size)) (t := s.toks) rfl rfl
  have F4 := F3.push (P := prA) (t := s.toks) (o := { cls := .type "tuple", data := .seq #[.none, .none] }) ⟨_, _, rfl⟩ rfl
  have F5 := F4.swap.push (P := zpE (zs2 s.heap (S y1) t (S y2) u).objs.size (zs3 s.heap (S y1) t (S y2) u).objs.size .none) (t := s.toks) rfl rfl
  exact ⟨⟨_, Heap.get?_push_size _ rfl, rfl⟩, vi okR F5 (h _ _ _ _ _)⟩
end
theorem Oks.dropK {ps : List Pt} {vs : List Value} (h : Oks ps vs) : ∀ k, Oks (ps.drop k) (vs.drop k) := by
  induction h with
  | nil => intro k; simp; exact .nil
  | cons hp h ih => intro k; cases k with | zero => exact .cons hp h | succ k => exact ih k
theorem Oks.takeK {ps : List Pt} {vs : List Value} (h : Oks ps vs) : ∀ k, Oks (ps.take k) (vs.take k) := by
  induction h with
  | nil => intro k; simp; exact .nil
  | cons hp h ih => intro k; cases k with | zero => exact .nil | succ k => exact .cons hp (ih k)
theorem pick_cut (items : Array Value) (lo hi : Option Nat) (hij : ∀ k, hi = some k → lo.getD 0 ≤ k) : (slicePick items (lo.map Int.ofNat) (hi.map Int.ofNat) none).toList = (items.toList.drop (lo.getD 0)).take (hi.getD items.size - lo.getD 0) := by
  have e : sliceBounds (lo.map Int.ofNat) (hi.map Int.ofNat) none items.size = (((min (lo.getD 0) items.size : Nat) : Int), ((min (hi.getD items.size) items.size : Nat) : Int), 1) := by
    have e2 : ∀ a : Nat, ¬ ((a : Int) < 0) := fun a => by omega
    unfold sliceBounds
    cases lo <;> cases hi <;> simp [e2] <;> omega
  rw [kmk_pick_nat _ e]
  have h3 : lo.getD 0 ≤ hi.getD items.size ∨ items.size ≤ lo.getD 0 := by
    cases hi with
    | none => simp; omega
    | some k => left; exact hij k rfl
  rcases Nat.le_total (lo.getD 0) items.size with h1 | h1
  · rw [Nat.min_eq_left h1]
    rcases Nat.le_total (hi.getD items.size) items.size with h2 | h2
    · rw [Nat.min_eq_left h2]
    · rw [Nat.min_eq_right h2, List.take_of_length_le (by simp), List.take_of_length_le (by simp; omega)]
  · rw [Nat.min_eq_right h1, List.drop_of_length_le (by simp), List.drop_of_length_le (by simpa using h1)]
    simp
section
variable {G : Gr} {w : World} {n m : Nat} {B : Bx G w n} {l l' : List Ent} {L : Addr} {env : Env} {pos ps : Pos} {p q : Pt} {KV : Pt → List Ent → Prop} {a b : Addr} {vs us : List Pt}
noncomputable abbrev qRev (G : Gr) (KV : Pt → List Ent → Prop) : Pt → List Ent → Prop := fun p l => ∃ a vs, p = .ref a ∧ IsL G l a vs ∧ vs.length ≤ 1000000 ∧ ∀ b, KV (.ref b) ((b, lst vs.reverse) :: l)
theorem k_lrev {value st : Expr} (h : WV B l (eval value env) (qRev G KV)) (hst : ∀ l (K : Pt → List Ent → Prop), K (.int (-1)) l → WV B l (eval st env) K) :
    WV B l (eval (.Subscript value (.Slice none none (some st) ps) pos) env) KV := fun s F =>
  Subscript_ (h.use F fun v p l s hp h F => wpAny_Slice (by
    rw [evalPart_none]
    refine wpAny_pure (wpAny_pure ?_)
    obtain ⟨a, vs, rfl, hL, hz, h⟩ := h
    cases hp
    refine (hst l (fun q l' => q = .int (-1) ∧ l' = l) ⟨rfl, rfl⟩).use F fun u q l' s hq hh F2 => ?_
    obtain ⟨e1, e2⟩ := hh
    subst e1
    rw [e2] at F2
    obtain ⟨t, rfl⟩ := hq
    obtain ⟨us, ho, hl⟩ := hL s F2
    have hl2 : (s.heap.push { cls := .type "slice", data := .fields #[.none, .none, .int (-1) t] }).IsList a us.toArray := hl.push _
    refine r_tail list_getitem_lookup (Heap.IsList.typeIs (s := { s with heap := _ }) hl2) (wpAny_getItem_list_slice hl2 (Heap.IsSliceOf.new ..) .none .none (.int _ _) (by decide) ?_ (sz (by rw [List.size_toArray, ho.len]; exact hz)))
    have F1 := F2.keep (h' := s.heap.push { cls := .type "slice", data := .fields #[.none, .none, .int (-1) t] }) (t := s.toks) fun _ _ e => Heap.get?_push_of_some _ e
    rw [krv_pick]
    exact vi okR (F1.push (P := lst vs.reverse) (t := s.toks) ⟨us.reverse, _, ho.rev, rfl⟩ rfl) (h _)))
noncomputable abbrev qLs3 (G : Gr) (KV : Pt → List Ent → Prop) (p a : Pt) : Pt → List Ent → Prop := fun b l => ∃ c vs i j, p = .ref c ∧ IsL G l c vs ∧ Part a i ∧ Part b j ∧ (∀ k, j = some k → i.getD 0 ≤ k) ∧ vs.length ≤ 1000000 ∧ ∀ d, KV (.ref d) ((d, lst ((vs.drop (i.getD 0)).take (j.getD vs.length - i.getD 0))) :: l)
noncomputable abbrev qLs2 (B : Bx G w n) (env : Env) (u : Option Expr) (KV : Pt → List Ent → Prop) (p : Pt) : Pt → List Ent → Prop := fun a l => WV B l (evalPart u env) (qLs3 G KV p a)
noncomputable abbrev qLs1 (B : Bx G w n) (env : Env) (lo u : Option Expr) (KV : Pt → List Ent → Prop) : Pt → List Ent → Prop := fun p l => WV B l (evalPart lo env) (qLs2 B env u KV p)
theorem Part.isPart {p : Pt} {i : Option Nat} {v : Value} (h : Part p i) (hv : p.ok v) : IsPart v (i.map Int.ofNat) := by
  obtain ⟨l, rfl, e⟩ := h.val hv
  rw [← e]
  cases l with
  | none => exact .none
  | some z => exact .int _ _
theorem k_lslice {value : Expr} {lower upper : Option Expr} (h : WV B l (eval value env) (qLs1 B env lower upper KV)) : WV B l (eval (.Subscript value (.Slice lower upper none ps) pos) env) KV := fun s F =>
  Subscript_ (h.use F fun v p l s hp h F => wpAny_Slice (h.use F fun vl a l s ha h F => h.use F fun vu b l s hb h F => by
    rw [evalPart_none]
    refine wpAny_pure ?_
    obtain ⟨c, vs, i, j, rfl, hL, hi, hj, hij, hz, h⟩ := h
    cases hp
    obtain ⟨us, ho, hl⟩ := hL s F
    have hl2 : (s.heap.push { cls := .type "slice", data := .fields #[vl, vu, .none] }).IsList c us.toArray := hl.push _
    refine r_tail list_getitem_lookup (Heap.IsList.typeIs (s := { s with heap := _ }) hl2) (wpAny_getItem_list_slice hl2 (Heap.IsSliceOf.new ..) (hi.isPart ha) (hj.isPart hb) .none (by decide) ?_ (sz (by rw [List.size_toArray, ho.len]; exact hz)))
    have F1 := F.keep (h' := s.heap.push { cls := .type "slice", data := .fields #[vl, vu, .none] }) (t := s.toks) fun _ _ e => Heap.get?_push_of_some _ e
    refine vi okR (F1.push (P := lst ((vs.drop (i.getD 0)).take (j.getD vs.length - i.getD 0))) (t := s.toks) ⟨(slicePick us.toArray (i.map Int.ofNat) (j.map Int.ofNat) none).toList, _, ?_, rfl⟩ rfl) (h _)
    rw [pick_cut _ _ _ hij]
    simp only [List.size_toArray]
    rw [ho.len]
    exact (ho.dropK _).takeK _))
end
end Mine
open PySem PySem.W PySem.Calls PyProof.Rows
namespace Mine
section
variable {G : Gr} {w : World} {n : Nat} {B : Bx G w n} {l l' : List Ent} {env : Env} {pos : Pos} {r : List Stmt} {KF : Fl → List Ent → Prop}
theorem k_While {α : Type} {test : Expr} {body orelse : List Stmt} (μ : α → Nat) (Lg : α → List Ent)
    (turn : ∀ x (KF' : Fl → List Ent → Prop), (∀ l x', μ x' < μ x → Im l (Lg x') → KF' .next l ∧ KF' .cont l) → (∀ l, WF B l (execs r env) KF → KF' .brk l) → (∀ p l, KF (.ret p) l → KF' (.ret p) l) →
      WB B (Lg x) (isTrue test env (eval test env)) (fun b l => (b = true → WF B l (execs body env) KF') ∧ (b = false → WF B l (execs orelse env) (Nx B env r KF))))
    (x₀ : α) (him : Im l (Lg x₀)) : WF B l (execs (.While test body orelse pos :: r) env) KF := .cons fun s F => by
  refine wpAny_While (codeAny_whileLoop (fun j s => ∃ x, j = μ x ∧ St G s (Lg x)) (fun j s hI => ?_) (μ x₀) ⟨x₀, rfl, F.im him⟩)
  obtain ⟨x, rfl, F⟩ := hI
  refine wpAny_mono (turn x (fun f l => match f with
      | .next | .cont => ∃ x', μ x' < μ x ∧ Im l (Lg x')
      | .brk => WF B l (execs r env) KF
      | .ret v => KF (.ret v) l) (fun l x' h1 h2 => ⟨⟨x', h1, h2⟩, ⟨x', h1, h2⟩⟩) (fun _ h => h) (fun _ _ h => h) s F) (fun b s₂ ⟨l₂, F, z⟩ => ?_) fun _ _ z => z.elim
  cases b with
  | true =>
    refine wpAny_mono (z.1 rfl s₂ F) (fun f s₃ ⟨fl, l₃, hf, F, z⟩ => ?_) fun _ _ z => z.elim
    cases fl with
    | next => cases hf; obtain ⟨x', hx, hi⟩ := z; exact ⟨_, hx, x', rfl, F.im hi⟩
    | cont => cases hf; obtain ⟨x', hx, hi⟩ := z; exact ⟨_, hx, x', rfl, F.im hi⟩
    | brk => cases hf; exact ⟨.next, _, rfl, F, z⟩
    | ret p => obtain ⟨v, rfl, hp⟩ := hf; exact ⟨.ret p, _, ⟨_, rfl, hp⟩, F, z⟩
  | false => exact wpAny_mono (z.2 rfl s₂ F) (fun f s₃ ⟨fl, l₃, hf, F, z⟩ => ⟨fl, l₃, hf, F, z⟩) fun _ _ z => z.elim
end
noncomputable def setP (w : World) (ys : List Word) : Obj → Prop := fun o => ∃ n, n ≤ ys.length ∧ o.SetObjOf (SK w) (fun k => ys.any fun y => decide (S y = k)) n
theorem any_S (ys : List Word) (y : Word) : (ys.any fun z => decide (S z = S y)) = ys.any (· == y) := by
  congr 1
  funext z
  by_cases q : z = y
  · subst q; simp
  · rw [decide_eq_false (fun e => q (S_inj.mp e)), beq_eq_false_iff_ne.mpr q]
section
variable {G : Gr} {w : World} {n m : Nat} {B : Bx G w n} {l l' : List Ent} {L : Addr} {loc loc' : Loc} {env : Env} {x : Str} {pos ap ps : Pos} {k : Nat} {sc : Scope} {cs : List (Str × Addr)} {p q : Pt}
  {KV : Pt → List Ent → Prop} {KU : List Ent → Prop} {KB : Bool → List Ent → Prop} {KL : List Pt → List Ent → Prop} {KF : Fl → List Ent → Prop}
  {a b C dx : Addr} {vs us : List Pt} {r : List Stmt} {ys : List Word} {y : Word}
theorem c_set0 (h : ∀ a, KV (.ref a) ((a, setP w []) :: l)) : WC B l (.type "set") [] KV := fun vs hv s F => by
  cases hv
  exact call_set_0 fun led => vi okR (F.push (P := setP w []) (t := s.toks) ⟨0, Nat.le_refl _, setObjOf_fresh (knd := SK w) led⟩ rfl) (h _)
theorem scan_ok {n : Nat} (h : n ≤ 1000) : n + 1 < scanBound := by
  have : scanBound = 4096 := rfl
  omega
theorem k_setin (j : Nat) (h1 : gE l j = some (a, setP w ys)) (hz : ys.length ≤ 1000) (h : KV (.bool (ys.any (· == y))) l) : WV2 B l (compareOp .In) (.str y) (.ref a) KV := fun v u hv hu s F => by
  obtain ⟨t, rfl⟩ := hv
  cases hu
  obtain ⟨o, e, n, hn, hs⟩ := F.get (Has.of h1)
  refine wpAny_inSet_of (knd := SK w) sk_is rfl (hs.setOf e (Nat.lt_of_succ_lt (scan_ok (Nat.le_trans hn hz)))) (vi okB (F.tok _) ?_)
  rw [any_S]
  exact h
theorem c_setadd (j : Nat) (h1 : gE l j = some (a, setP w ys)) (hz : ys.length ≤ 1000) (h : KV .none (sE l j (a, setP w (ys ++ [y])))) : WC B l (.builtin "set.add") [.ref a, .str y] KV := on2 fun v u s hv hu F => by
  cases hv
  obtain ⟨t, rfl⟩ := hu
  obtain ⟨o, e, n, hn, hs⟩ := F.get (Has.of h1)
  refine call_set_add (knd := SK w) sk_is rfl (hs.setOf e (Nat.lt_of_succ_lt (scan_ok (Nat.le_trans hn hz)))) (scan_ok (Nat.le_trans hn hz)) fun h' hsb hS' => ?_
  obtain ⟨o', ho', hso'⟩ := hS'.objOf
  have hn' : (if (ys.any fun z => decide (S z = S y)) = true then n else n + 1) ≤ (ys ++ [y]).length := by
    rw [List.length_append, List.length_cons, List.length_nil]
    split <;> omega
  have hf : (fun k => (ys ++ [y]).any fun y => decide (S y = k)) = fun k' => (ys.any fun y => decide (S y = k')) || decide (k' = S y) := funext fun k => by
    rw [List.any_append, List.any_cons, List.any_nil, Bool.or_false]
    congr 1
    exact decide_eq_decide.mpr eq_comm
  exact vi okNo (F.upd (t := s.toks + 1) (P' := setP w (ys ++ [y])) (Rep.of h1) (fun b o hb e => (hsb.2 b hb).trans e) ⟨o', ho', _, hn', hf ▸ hso'⟩) h
noncomputable abbrev qSM (B : Bx G w n) (pos : Pos) (args : List Expr) (env : Env) (KV : Pt → List Ent → Prop) : Pt → List Ent → Prop := fun ov l => ∃ a, ov = .ref a ∧ (∃ i ys, gE l i = some (a, setP w ys) ∧ ys.length ≤ 1000) ∧ WV B l (callWith pos (.builtin "set.add") [.ref a] (backTo pos (starEach args env)) []) KV
theorem qsm {args : List Expr} (i : Nat) (hh : gE l i = some (a, setP w ys)) (hz : ys.length ≤ 1000) (z : WV B l (callWith pos (.builtin "set.add") [.ref a] (backTo pos (starEach args env)) []) KV) : qSM B pos args env KV (.ref a) l := ⟨a, rfl, ⟨i, ys, hh, hz⟩, z⟩
theorem k_setadd {pl : Sem Bool} {o : Expr} {args : List Expr} (h : WV B l (eval o env) (qSM B pos args env KV))
    (he : eval (.Call (.Attribute o "add" ap) args [] pos) env = (do
      let ov ← eval o env
      standAt ap.atName
      let (f, first) ← holding [ov] (getMethod ov "add" pl)
      callWith pos f first (backTo pos (starEach args env)) []) := by rfl) :
    WV B l (eval (.Call (.Attribute o "add" ap) args [] pos) env) KV := fun s F =>
  MethodCall_ (h.use F fun ov p l s₁ hp h F => by
    obtain ⟨a, e, ⟨i, ys, hh, hz⟩, z⟩ := h
    subst e; cases hp
    obtain ⟨o, e, n, hn, hs⟩ := F.get (Has.of hh)
    exact getMethod_set_add (knd := SK w) (hs.setOf e (Nat.lt_of_succ_lt (scan_ok (Nat.le_trans hn hz)))) (z _ F)) he
theorem k_din {ks : List (List Nat × Pt)} {P : Obj → Prop} (h1 : IsD G w l a ks) (h2 : Has a P l) (h : KV (.bool (atK ks y).isSome) l) : WV2 B l (compareOp .In) (.str y) (.ref a) KV := fun v u hv hu s F => by
  obtain ⟨t, rfl⟩ := hv
  cases hu
  obtain ⟨kv, hk, hd⟩ := h1 s F
  refine wpAny_in_of (knd := SK w) sk_is (notSys B F h2) hd.mapOf (vi okB (F.tok _) ?_)
  rcases hk.at y with ⟨e, e'⟩ | ⟨p', v, e, e', hp⟩
  · rw [e']; rw [e] at h; exact h
  · rw [e']; rw [e] at h; exact h
theorem k_getLast {value slice : Expr} (i : Nat) (h1 : gE l i = some (a, lst (vs ++ [p]))) (hz : vs.length ≤ 1000000) (h : KV p l) : WV2 B l (subscriptTail value slice) (.ref a) (.int (-1)) KV := fun v u hv' hu s F => by
  cases hv'
  obtain ⟨t, rfl⟩ := hu
  obtain ⟨us, k, e⟩ := isL F (Has.of h1)
  obtain ⟨xs, ws, rfl, k1, k2⟩ := k.split
  cases k2 with | cons hp k2 =>
  cases k2
  exact r_tail slot_list_getitem.lookup e.typeIs (wpAny_getItem_list_neg e (by decide) (by simp; omega) (by decide) (by
    rw [List.size_toArray, List.length_append, show ((-1 : Int) + ((xs.length + [_].length : Nat) : Int)).toNat = xs.length by simp only [List.length_cons, List.length_nil]; omega]
    simp) (vi hp F h))
end
noncomputable def mwP (it : Addr) : Obj → Prop := fun o => o = mwObj it
noncomputable def exN (cls : String) : Obj → Prop := fun o => o.cls = .type cls ∧ ∃ vs, o.data = .fields vs ∧ vs[1]? = some .none
noncomputable def exT (cls : String) (T : Addr) : Obj → Prop := fun o => o.cls = .type cls ∧ ∃ vs, o.data = .fields vs ∧ vs[1]? = some (.ref T)
noncomputable def tbP (fl : Value) : Obj → Prop := fun o => ∃ ts, o.data = .fields ts ∧ ts[3]? = some fl
theorem check_mw (it : Addr) : checkBoundCall "list_iterator.__next__" ⟨[.ref it], []⟩ = pure () := by first | kernel_rfl | rfl
theorem quiet_mw {as : Args} : (Code.builtin "list_iterator.__next__" as).quiet = true := Code.quiet_builtin _ (by decide +kernel)
theorem under_mw (A : Around) (as : Args) : (A.under (.builtin "list_iterator.__next__" as)).handled = A.handled := rfl
section
variable {prog : Program} {w : World} {A : Around} {E : Value → Shared → Prop} {s : Shared}
theorem call_mw {mw it : Addr} {Q : Value → Shared → Prop} (ho : s.heap.get? mw = some (mwObj it))
    (h : wpAny (model prog w) (A.under (.builtin "list_iterator.__next__" ⟨[.ref it], []⟩)) (Builtin.«list_iterator.__next__» ⟨[.ref it], []⟩) (fun fin s' => ∃ v, fin = .done (.ret v) ∧ Q v s') E s) : wpAny (model prog w) A (call (.ref mw) []) Q E s := by
  refine wpAny_call (codeAny_of_tree ?_)
  show wpAny _ A.in1 (callAny (.ref mw) ⟨[], []⟩) _ _ s
  simp only [callAny]
  refine wpAny_bind (wpAny_load ho ?_)
  simp only [show (Value.type "method-wrapper" == Value.type "method" || Value.type "method-wrapper" == Value.type "builtin_function_or_method" || Value.type "method-wrapper" == Value.type "method-wrapper") = true by decide, if_true]
  simp only [show (Value.type "method-wrapper" != Value.type "method") = true by decide, if_true]
  refine wpAny_bind (wpAny_of_eq (a := ()) (check_mw it) ?_)
  refine wpAny_bind (wpAny_pure (wpAny_pure ?_))
  refine ⟨quiet_mw, codeAny_builtin entry_listiter_next (wpAny_mono h (fun fin s' ⟨v, e, q⟩ => ?_) fun _ _ z => z)⟩
  subst e
  exact q
theorem mw_item {it l : Addr} {i : Nat} {items : Array Value} {x : Value} {Q : Value → Shared → Prop} (hit : s.heap.IsListIter it l i) (hl : s.heap.IsList l items) (hx : items[i]? = some x)
    (hQ : ∀ h', h'.IsListIter it l (i + 1) → Heap.SameBut it s.heap h' → Q x { s with heap := h' }) : wpAny (model prog w) A (Builtin.«list_iterator.__next__» ⟨[.ref it], []⟩) (fun fin s' => ∃ v, fin = .done (.ret v) ∧ Q v s') E s := by
  obtain ⟨o, ho, hc, hd⟩ := id hit
  obtain ⟨ol, hol, _, nl, hdl⟩ := hl
  show wpAny _ _ (field (.ref it) 0 >>= _) _ _ s
  refine wpAny_bind (wpAny_field ho hd (x := .ref l) rfl ?_)
  show wpAny _ _ (if (Value.ref l == Value.none) = true then _ else _) _ _ s
  rw [if_neg (show ¬ ((Value.ref l == Value.none) = true) from Bool.false_ne_true)]
  show wpAny _ _ (field (.ref it) 1 >>= _) _ _ s
  refine wpAny_bind (wpAny_field ho hd (x := .int i 0) rfl ?_)
  show wpAny _ _ (seqItems? (.ref l) >>= _) _ _ s
  refine wpAny_bind (wpAny_seqItems hol hdl ?_)
  simp only [Int.toNat_natCast, hx]
  refine wpAny_bind (wpAny_setField ho hd (by simp) (wpAny_pure ⟨x, rfl, hQ _ ?_ (Heap.SameBut.update ..)⟩))
  exact ⟨_, Heap.get?_update_self _ ho (Obj.isFreed_of_fields (Obj.data_mapFields hd _)), (Obj.cls_mapFields ..).trans hc, by
    rw [Obj.data_mapFields hd]; simp [rawInt]⟩
theorem mw_stop {it l : Addr} {i : Nat} {items : Array Value} {Q : Fin → Shared → Prop} (hh : A.handled = none) (hit : s.heap.IsListIter it l i) (hl : s.heap.IsList l items) (hx : items[i]? = none)
    (hQ : ∀ h' e o, Heap.ExtBut it s.heap h' → s.heap.get? e = none → h'.get? e = some o → exN "StopIteration" o → E (.ref e) { s with heap := h' }) : wpAny (model prog w) A (Builtin.«list_iterator.__next__» ⟨[.ref it], []⟩) Q E s := by
  obtain ⟨o, ho, hc, hd⟩ := id hit
  obtain ⟨ol, hol, _, nl, hdl⟩ := hl
  show wpAny _ _ (field (.ref it) 0 >>= _) _ _ s
  refine wpAny_bind (wpAny_field ho hd (x := .ref l) rfl ?_)
  show wpAny _ _ (if (Value.ref l == Value.none) = true then _ else _) _ _ s
  rw [if_neg (show ¬ ((Value.ref l == Value.none) = true) from Bool.false_ne_true)]
  show wpAny _ _ (field (.ref it) 1 >>= _) _ _ s
  refine wpAny_bind (wpAny_field ho hd (x := .int i 0) rfl ?_)
  show wpAny _ _ (seqItems? (.ref l) >>= _) _ _ s
  refine wpAny_bind (wpAny_seqItems hol hdl ?_)
  simp only [Int.toNat_natCast, hx]
  refine wpAny_bind (wpAny_rule (wpAny_bind (wpAny_setField ho hd (by simp) ?_)))
  show wpAny _ _ (newExc (.type "StopIteration") [] >>= _) _ _ _
  refine wpAny_bind ?_
  simp only [newExc, newTuple]
  refine wpAny_bind (wpAny_newObj_type ?_ (by size_fits))
  refine wpAny_bind (m := firstArgMember _ _) (wpAny_of_eq (a := Value.none) (by first | rfl | (simp only [firstArgMember]; rfl)) ?_)
  refine wpAny_newObj_type ?_ (by size_fits)
  simp only [raiseNew]
  refine wpAny_bind (wpAny_handled ?_)
  rw [hh]
  refine wpAny_bind (wpAny_pure (wpAny_throw ?_))
  refine hQ _ _ _ (((Heap.SameBut.update ..).extBut.push _).push _) (Heap.get?_none_of_le (by simp)) (Heap.get?_push_size _ rfl) ⟨rfl, _, rfl, rfl⟩
theorem callWith_mw {pos : Pos} {u it : Addr} {env : Env} {Q : Value → Shared → Prop} (ho : s.heap.get? u = some (mwObj it)) (h : wpAny (model prog w) A (call (.ref u) []) Q E s) :
    wpAny (model prog w) A (callWith pos (.ref u) [] (backTo pos (starEach [] env)) []) Q E s := by
  unfold callWith
  refine wpAny_bind (wpAny_holding (PySem.evalArgs_none (wpAny_bind (wpAny_standAt ?_))))
  refine wpAny_bind (m := keeperOf (.ref u)) ?_
  unfold keeperOf
  refine wpAny_bind (wpAny_load ho ?_)
  simp only [show (Value.type "method-wrapper" != Value.type "method") = true by decide, show (Value.type "method-wrapper" == Value.type "builtin_function_or_method" || Value.type "method-wrapper" == Value.type "method-wrapper") = true by decide, if_true]
  refine wpAny_pure ?_
  exact wpAny_bind (wpAny_mono h (fun r s₂ hr => wpAny_bind (wpAny_holding (wpAny_point (wpAny_pure hr)))) fun _ _ x => x)
end
noncomputable abbrev Frm := Env × Addr × Loc
noncomputable def frL (fr : List Frm) : List Ent := fr.map fun x => (x.2.1, nsP x.2.2)
noncomputable def FrOk (fr : List Frm) : Prop := ∀ x ∈ fr, x.1.frame = some x.2.1 ∧ x.1.scope.kind ≠ .module
theorem fr_addrs {fr : List Frm} (h : FrOk fr) : (fr.map (·.1)).filterMap (·.frame) = fr.map (·.2.1) := by
  induction fr with
  | nil => rfl
  | cons x fr ih =>
    rw [List.map_cons, List.filterMap_cons, (h x (.head _)).1, List.map_cons]
    exact congrArg _ (ih fun y hy => h y (.tail _ hy))
section
variable {G : Gr} {w : World} {l r : List Ent} {s : Shared} {fr : List Frm}
theorem nsP_slots {loc : Loc} {o : Obj} {sl : Array (Option Value)} (h : nsP loc o) : nsP loc { o with slots := sl } := h
theorem St.slots (F : St G s (frL fr ++ r)) {h' : Heap} (hs : Heap.SlotsOnly (fr.map (·.2.1)) s.heap h') : St G { s with heap := h' } (frL fr ++ r) := by
  have hmem : ∀ b ∈ fr.map (·.2.1), ∃ p ∈ frL fr, p.1 = b ∧ ∃ loc, p.2 = nsP loc := fun b hb => by
    obtain ⟨x, hx, rfl⟩ := List.mem_map.mp hb
    exact ⟨_, List.mem_map.mpr ⟨x, hx, rfl⟩, rfl, _, rfl⟩
  refine F.next (t := s.toks) (fun b o e0 e => ?_) (fun p hp => ?_) F.new F.nd
  · rw [hs.2.1 b fun hb => ?_]
    · exact e
    · obtain ⟨p, hp, e1, _⟩ := hmem b hb
      have := F.new p (List.mem_append_left _ hp)
      rw [e1, e0] at this; cases this
  · obtain ⟨o, e, x⟩ := F.led p hp
    by_cases c : p.1 ∈ fr.map (·.2.1)
    · obtain ⟨q, hq, e1, loc, e2⟩ := hmem _ c
      have : q = p := ent_one F.nd (List.mem_append_left _ hq) hp e1
      subst this
      obtain ⟨sl, hsl⟩ := hs.2.2 _ _ e
      rw [e2] at x ⊢
      exact ⟨_, hsl, nsP_slots x⟩
    · exact ⟨o, (hs.2.1 _ c).trans e, x⟩
theorem St.funFrames (F : St G s l) (h : FrOk fr) (hl : ∀ p ∈ frL fr, p ∈ l) : s.heap.FunFrames G.h₀ (fr.map (·.1)) := by
  induction fr with
  | nil => trivial
  | cons x fr ih =>
    have hx : ((x.2.1, nsP x.2.2) : Ent) ∈ l := hl _ (List.mem_map.mpr ⟨x, .head _, rfl⟩)
    obtain ⟨o, e, es, ep, hd, _⟩ := F.led _ hx
    refine ⟨(h x (.head _)).2, ⟨_, o, (h x (.head _)).1, F.new _ hx, e, fun vs => ?_⟩, ih (fun y hy => h y (.tail _ hy)) fun p hp => hl p (by
      obtain ⟨y, hy, rfl⟩ := List.mem_map.mp hp
      exact List.mem_map.mpr ⟨y, .tail _ hy, rfl⟩)⟩
    rw [hd]; exact fun e => nomatch e
variable {A : Around} {E : Value → Shared → Prop} {M : Model}
theorem r_note {e : Addr} {cls : String} {x : Frm} {Q : Unit → Shared → Prop} (hA : A.frames = some ((x :: fr).map (·.1))) (hok : FrOk (x :: fr)) (F : St G s ((e, exN cls) :: (frL (x :: fr) ++ r)))
    (h : ∀ s' T, St G s' ((T, tbP (rawInt x.2.1)) :: (e, exT cls T) :: (frL (x :: fr) ++ r)) → Q () s') : wpAny M A (noteFrame (.ref e) x.1) Q E s := by
  obtain ⟨hf, hk⟩ := hok x (.head _)
  obtain ⟨oe, he, hc, vs, hd, h1⟩ := F.get .head
  have hsz : 1 < vs.size := (Array.getElem?_eq_some_iff.mp h1).1
  unfold noteFrame
  simp only [hf]
  refine wpAny_bind (wpAny_field he hd h1 ?_)
  rw [if_neg (by decide)]
  have hl : s.heap.FunFrames G.h₀ (x.1 :: fr.map (·.1)) := F.funFrames hok fun p hp => .tail _ (List.mem_append_left _ hp)
  refine wpAny_bind (wpAny_frameOf_fun hA hl hf fun h₁ hs₁ => ?_)
  refine wpAny_bind (wpAny_entryPlaceOf fun pl hpl => ?_)
  unfold EntryCells.newEntry newFields
  refine wpAny_bind (wpAny_newObj_type ?_ (hpl.sizeOk5 _ _ _ _ _))
  have hs₂ : Heap.SlotsOnly ((x :: fr).map (·.2.1)) s.heap h₁ := fr_addrs hok ▸ hs₁
  have F1 : St G { s with heap := h₁ } ((e, exN cls) :: (frL (x :: fr) ++ r)) := (St.slots (r := (e, exN cls) :: r) (F.perm List.perm_middle.symm) hs₂).perm List.perm_middle
  obtain ⟨oe1, he1, hc1, vs1, hd1, h11⟩ := F1.get .head
  have F2 := F1.push (P := tbP (rawInt x.2.1)) (o := { cls := .type "traceback", dict := none, data := .fields ([Value.none, .ref x.2.1, .none, rawInt x.2.1, .none] ++ (if pl.isEmpty then List.replicate 6 Value.none else pl)).toArray }) (t := s.toks) ⟨_, rfl, by simp⟩ rfl
  have he2 := Heap.get?_push_of_some (h := h₁) { cls := .type "traceback", dict := none, data := .fields ([Value.none, .ref x.2.1, .none, rawInt x.2.1, .none] ++ (if pl.isEmpty then List.replicate 6 Value.none else pl)).toArray } he1
  refine wpAny_setField he2 hd1 (Array.getElem?_eq_some_iff.mp h11).1 ?_
  have hd3 := Obj.data_mapFields hd1 (·.setIfInBounds 1 (Value.ref h₁.objs.size))
  refine h _ h₁.objs.size (F2.upd (t := s.toks) (P' := exT cls h₁.objs.size) (.tail .head) (fun b o hb q => (Heap.get?_update_other _ _ (Ne.symm hb)).trans q) ⟨_, Heap.get?_update_self _ he2 (Obj.isFreed_of_fields hd3), (Obj.cls_mapFields _ _).trans hc1, _, hd3, ?_⟩)
  simp [(Array.getElem?_eq_some_iff.mp h11).1]
theorem r_flight {e T : Addr} {cls : String} {fl : Value} {Q : Unit → Shared → Prop} (F : St G s ((T, tbP fl) :: (e, exT cls T) :: l)) (h : ∀ s', St G s' ((T, tbP .none) :: (e, exT cls T) :: l) → Q () s') : wpAny M A (setFlight (.ref e) none) Q E s := by
  obtain ⟨oT, hT, ts, hdt, h3⟩ := F.get .head
  obtain ⟨oe, he, hc, vs, hd, h1⟩ := F.get (.tail .head)
  have hsz := (Array.getElem?_eq_some_iff.mp h3).1
  refine wpAny_setFlight_none he hd h1 hT hdt hsz ?_
  have hd3 := Obj.data_mapFields hdt (·.setIfInBounds 3 Value.none)
  exact h _ (F.upd (t := s.toks) (P' := tbP .none) .head (fun b o hb q => (Heap.get?_update_other _ _ (Ne.symm hb)).trans q) ⟨_, Heap.get?_update_self _ hT (Obj.isFreed_of_fields hd3), _, hd3, by simp [hsz]⟩)
end
noncomputable def delK (ks : List (List Nat × Pt)) (y : List Nat) : List (List Nat × Pt) := ks.filter fun k => !(k.1 == y)
theorem KOks.del {ks : List (List Nat × Pt)} {kv : List (Str × Value)} {y : List Nat} (h : KOks ks kv) : KOks (delK ks y) (without kv (S y)) := by
  induction h with
  | nil => exact .nil
  | @cons z p v ks vs hp _ ih =>
    unfold delK without at *
    rw [List.filter_cons, List.filter_cons]
    by_cases q : z = y
    · subst q
      simp only [beq_self_eq_true, Bool.not_true, Bool.false_eq_true, if_false, ne_eq, not_true_eq_false, decide_false]
      exact ih
    · have q' : ¬ S z = S y := fun e => q (S_inj.mp e)
      rw [if_pos (by simpa using q), if_pos (by simpa using q)]
      exact .cons hp ih
section
variable {G : Gr} {w : World} {n m : Nat} {B : Bx G w n} {l l' : List Ent} {L : Addr} {loc loc' : Loc} {env : Env} {x y : Str} {pos ap ps pn ph pa pb pc : Pos} {k : Nat} {sc : Scope} {cs : List (Str × Addr)} {p q : Pt}
  {KV : Pt → List Ent → Prop} {KU : List Ent → Prop} {KF : Fl → List Ent → Prop}
  {a b C dx : Addr} {vs us : List Pt} {r : List Stmt} {ys : List Word} {A : Around} {s : Shared} {E : Value → Shared → Prop}
theorem St.add {e : Addr} {P : Obj → Prop} {o : Obj} (F : St G s l) (hn : e ∉ l.map (·.1)) (h0 : G.h₀.get? e = none) (he : s.heap.get? e = some o) (ho : P o) : St G s ((e, P) :: l) :=
  ⟨F.base, fun p hp => by
    rcases List.mem_cons.mp hp with rfl | hp
    · exact ⟨o, he, ho⟩
    · exact F.led p hp, fun p hp => by
    rcases List.mem_cons.mp hp with rfl | hp
    · exact h0
    · exact F.new p hp, List.nodup_cons.mpr ⟨hn, F.nd⟩, F.gens, F.drawn, F.os⟩
theorem r_name {z : Str} {Q : Value → Shared → Prop} (i j : Nat) (en : En env L sc cs) (F : St G s l) (hL : gE l i = some (L, nsP loc)) (hv : gN loc j = some (z, some p)) (hx : (okN sc x .local && ix loc x j) = true) (h : ∀ v, p.ok v → Q v s) : wpAny (model pw w) A (eval (.Name x pos) env) Q E s :=
  have o := OkN.mk' en (okx hx).1
  (F.ns (Has.of hL)).elim fun _ z => (Kn.val (Lk.of hv (okx hx).2) z.2).elim fun v y => wpAny_Name (wpAny_loadName_local o.f o.k (en.l ▸ z.1) y.1 (h v y.2)) o.d
theorem r_pop {z : Str} {Q : Value → Shared → Prop} {pl : Sem Bool} (i j d : Nat) (en : En env L sc cs) (F : St G s l) (hL : gE l i = some (L, nsP loc)) (hv : gN loc j = some (z, some (.ref a))) (hx : (okN sc x .local && ix loc x j) = true) (hE : gE l d = some (a, lst (vs ++ [p]))) (hz : vs.length + 1 ≤ 1000000)
    (h : ∀ v s', p.ok v → St G s' (sE l d (a, lst vs)) → Q v s')
    (he : eval (.Call (.Attribute (.Name x pn) "pop" ap) [] [] pos) env = (do
      let ov ← eval (.Name x pn) env
      standAt ap.atName
      let (f, first) ← holding [ov] (getMethod ov "pop" pl)
      callWith pos f first (backTo pos (starEach [] env)) []) := by rfl) : wpAny (model pw w) A (eval (.Call (.Attribute (.Name x pn) "pop" ap) [] [] pos) env) Q E s := by
  refine MethodCall_ (r_name i j en F hL hv hx fun ov hov => ?_) he
  cases hov
  obtain ⟨us, n, k, e⟩ := F.lrec (Has.of hE)
  refine getMethod_list_of PySem.F.slot_list_pop PySem.F.type_list_pop ⟨_, e, rfl, n, rfl⟩ ⟨_, e, rfl⟩ (callWith_method0 ?_)
  obtain ⟨xs, ws, rfl, k1, k2⟩ := k.split
  cases k2 with | cons hp k2 =>
  cases k2
  rename_i v
  have z1 := k1.len
  refine call_meets PySem.F.slot_list_pop ⟨_, e, rfl⟩ PySem.F.entry_list_pop (PySem.F.args_list_pop_1 _) (MeetsSeq.list_pop_last a (xs ++ [v]).toArray n v (by simp) (by have : sizeLine = 16777216 := rfl; simp; omega)) ⟨e, h v _ hp (F.mapSeq (fun xs' => xs'.eraseIdxIfInBounds ((xs ++ [v]).toArray.size - 1)) e ?_ (Rep.of hE))⟩
  have : ((xs ++ [v]).toArray.eraseIdxIfInBounds ((xs ++ [v]).toArray.size - 1)).toList = xs := by
    simp [Array.eraseIdxIfInBounds]
    rw [List.eraseIdx_append_of_length_le (Nat.le_refl _)]; simp
  rw [this]; exact k1
theorem r_del {ks : List (List Nat × Pt)} {y : Word} {t : Tok} {Q : Unit → Shared → Prop} (i : Nat) (F : St G s l) (h1 : gE l i = some (a, dct w ks)) (hs : (atK ks y).isSome = true) (hz : ks.length ≤ 1000000)
    (h : ∀ s', St G s' (sE l i (a, dct w (delK ks y))) → Q () s') : wpAny (model pw w) A (delItem (.ref a) (.str (S y) t)) Q E s := by
  obtain ⟨kv, hk, hD⟩ := F.dict (Has.of h1)
  have hsome : (valueAt kv (S y)).isSome = true := by
    rcases hk.at y with ⟨e, _⟩ | ⟨p', v, e, e', hp⟩
    · rw [e] at hs; cases hs
    · rw [e']; rfl
  unfold delItem
  try with_reducible refine wpAny_holding ?_
  refine wpAny_bind (wpAny_sequenceKey hD.typeIs (by decide) ?_)
  refine wpAny_bind (wpAny_callSpecial?_slot (name := Str.ofString "__delitem__") hD.typeIs PySem.F.slot_dict_delitem
    (call_meetsIn PySem.F.slot_dict_delitem hD.typeIs PySem.F.entry_dict_delitem (PySem.F.args_dict_delitem_2 _ _) (meets_dict_delitem_pairs (SK w) a sk_is) ⟨kv, hD, (by rw [hk.len]; exact sz hz), hsome, fun h' hmm hs => ?_⟩))
  obtain ⟨o', ho', hd'⟩ := Heap.dictOf_iff.mp hmm
  exact wpAny_pure (h _ (F.upd (t := s.toks + 1) (P' := dct w (delK ks y)) (Rep.of h1) (fun b o hb e => (hs.2 b hb).trans e) ⟨o', ho', _, hk.del, hd'⟩))
theorem r_catch {e T : Addr} {cls Th : String} {fl : Value} {b₀ : Stmt} {suite : List Stmt} {Q : Flow → Shared → Prop} (bs : Bs G w) (en : En env L sc cs) (F : St G s ((T, tbP fl) :: (e, exT cls T) :: l))
    (hexc : isSubtype (.type Th) (.type "BaseException") = pure true) (hnt : isSubtype (.type ((Manifest.find? Th).elim "type" fun x => x.metatype)) (.type "tuple") = pure false) (hsub : isSubtype (.type cls) (.type Th) = pure true)
    (g : nsIn (K w.params) mainGlobals x = some none) (hv : bootBuiltins x = some (.type Th)) (hx : okN sc x .globalImplicit = true)
    (h : ∀ s', St G s' ((T, tbP .none) :: (e, exT cls T) :: l) → wpAny (model pw w) (A.mark (some (.ref e))) (execs (b₀ :: suite) env) Q NoE s') :
    wpAny (model pw w) A (setFlight (.ref e) none) (fun _ s₃ => wpAny (model pw w) A (handleBy (.ref e) env [.ExceptHandler (some (.Name x pn)) none (b₀ :: suite) ph]) Q E s₃) E s := by
  refine r_flight F fun s1 F1 => ?_
  refine wpAny_handleBy_builtin (b := true) hexc hnt hsub ?_
  obtain ⟨mg, g'⟩ := bs.g
  obtain ⟨mb, b', bi⟩ := bs.b
  have o := OkN.mk' en hx
  refine Name_function_global o.f o.k (loadGlobal_builtin (env := env) (en.g ▸ g'.keeps F1.base) (mg_none_of bs.X g' g) (en.b ▸ b'.keeps F1.base) ((bi x (by simpa using o.n)).trans hv) ⟨rfl, ?_, ?_⟩) o.d
  · obtain ⟨oe, he, hc, _⟩ := F1.get (.tail .head)
    exact ⟨oe, he, hc⟩
  · show wpAny _ _ (setFlight (.ref e) none) _ _ _
    refine r_flight F1 fun s2 F2 => ?_
    exact wpAny_mono (h s2 F2) (fun _ _ z => z) fun _ _ z => z.elim
inductive qTryN (B : Bx G w n) (env : Env) (y : Str) (suite r : List Stmt) (fl : List Ent) (KF : Fl → List Ent → Prop) (q : Pt) (l1 : List Ent) : Prop
  | mk (mw it sa : Addr) (i : Nat) (vs : List Pt) (l2 : List Ent) (hq : q = .ref mw) (hm : Has mw (mwP it) l1) (hp : l1.Perm ((it, li sa i) :: l2)) (hs : Has sa (lst vs) l2)
    (h1 : ∀ p, vs[i]? = some p → WU1 B ((it, li sa (i + 1)) :: l2) (storeName env y) p (fun l => KF .brk l))
    (h2 : vs[i]? = none → ∃ r', l2.Perm (fl ++ r') ∧ ∀ e s', St G s' (fl ++ r') → wpAny (model pw w) (B.A.mark (some (.ref e))) (execs suite env) (fun f s'' => f = .next ∧ ∃ l', St G s'' l' ∧ WF B l' (execs r env) KF) NoE s')
theorem k_tryNext {fe : Expr} {b₀ : Stmt} {suite : List Stmt} {xf : Frm} {fr : List Frm} (hA : B.A.frames = some ((xf :: fr).map (·.1))) (hok : FrOk (xf :: fr)) (hxf : xf.1 = env) (en : En env L sc cs)
    (hx : okN sc "StopIteration" .globalImplicit = true)
    (h : WV B l (eval fe env) (qTryN B env y (b₀ :: suite) r (frL (xf :: fr)) KF))
    (g : nsIn (K w.params) mainGlobals "StopIteration" = some none := by kernel_rfl)
    (he : eval (.Call fe [] [] pc) env = (do callWith pc (← eval fe env) [] (backTo pc (starEach [] env)) (backToKw pc (keywordEach [] env))) := by rfl)
    (hsw : swapsWith (.Call fe [] [] pc) (some (.Name y ps)) pa.line env = pure false := by rfl) :
    WF B l (execs (.Try [.Assign [.Name y ps] (.Call fe [] [] pc) pa, .Break pb] [.ExceptHandler (some (.Name "StopIteration" pn)) none (b₀ :: suite) ph] [] [] pos :: r) env) KF := .cons fun s F => by
  subst hxf
  refine wpAny_Try_except (wpAny_execs_cons (wpAny_Assign_Name (Call_ (wpAny_mono (h.use F fun v q l1 s1 hq h F => ?_) (fun _ _ z => z) fun _ _ z => z.elim) he) hsw))
  obtain ⟨mw, it, sa, i, vs, l2, rfl, hm, hp, hsa, h1, h2⟩ := h
  cases hq
  obtain ⟨om, em, rfl⟩ := F.get hm
  have F2 := F.perm hp
  clear he hsw
  obtain ⟨oi, ei, ci, di⟩ := F2.get .head
  obtain ⟨us, ok, el⟩ := isL F2 (.tail hsa)
  refine callWith_mw em (call_mw em ?_)
  cases hv : vs[i]? with
  | some p =>
    obtain ⟨v, e', hpv⟩ := ok.get hv
    refine mw_item ⟨oi, ei, ci, di⟩ el (by simpa using e') fun h' ⟨o, ho, hx'⟩ hs => ?_
    have F3 : St G { s1 with heap := h', toks := s1.toks } ((it, li sa (i + 1)) :: l2) := F2.upd (P' := li sa (i + 1)) .head (fun b o hb e => (hs.2 b hb).trans e) ⟨o, ho, hx'⟩
    refine wpAny_mono ((h1 p hv v hpv).use F3 fun l4 s4 hk F4 => ?_) (fun _ _ z => z) fun _ _ z => z.elim
    exact wpAny_execs_cons (wpAny_Break ⟨.brk, l4, rfl, F4, hk⟩)
  | none =>
    have hne : us.toArray[i]? = none := by
      have := List.getElem?_eq_none_iff.mp hv
      rw [← ok.len] at this
      simpa using this
    refine mw_stop (show (B.A.under _).handled = none from (under_mw _ _).trans B.hA.hh) ⟨oi, ei, ci, di⟩ el hne fun h' e o hext hnew ho hP => ?_
    have F3 : St G { s1 with heap := h', toks := s1.toks } l2 := F2.gone .head fun b o hb e => hext _ _ hb e
    have hnk : e ∉ l2.map (·.1) := F2.drop.nonew hnew
    have h0 : G.h₀.get? e = none := by
      cases q : G.h₀.get? e with
      | none => rfl
      | some o => rw [F2.base _ _ q] at hnew; cases hnew
    have F4 := F3.add hnk h0 ho hP
    obtain ⟨r', hp', hs'⟩ := h2 hv
    refine r_note hA hok (F4.perm (hp'.cons _)) fun s5 T F5 => ?_
    refine r_catch B.bs en F5 (by rw [isSubtype_type]; kernel_rfl) (by rw [isSubtype_type]; kernel_rfl) isSubtype_stop g (by kernel_rfl) hx fun s6 F6 => ?_
    refine wpAny_mono (hs' e s6 F6.drop.drop) (fun f s7 z => ?_) fun _ _ z => z
    obtain ⟨rfl, l', F7, hk⟩ := z
    exact ⟨.next, l', rfl, F7, hk⟩
end
section
variable {G : Gr} {w : World} {n m : Nat} {B : Bx G w n} {l l' : List Ent} {L : Addr} {loc loc' : Loc} {env : Env} {x : Str} {p q : Pt}
  {KV : Pt → List Ent → Prop} {KU : List Ent → Prop} {KF : Fl → List Ent → Prop} {ps : List Pt}
theorem k_enterKF {f : Addr} {fd : FuncData} {ps : List Pt} {names : List Str} {loc : Loc} {body : List Stmt} {B : Bx G w (n + 1)} (ho : (K w.params).lookup f = some { cls := .type "function", data := .func fd })
    (hcd : codeIn (K w.params) fd.code fd.qualname = true) (hbody : fd.body = .stmts body) (hg : fd.globals = mainGlobals) (hb : fd.builtins = builtinsNs) (hcl : fd.closure = [])
    (hok : ((fd.scope.names.all fun x => x.2 != .cell) && (names.all fun x => fd.scope.names.lookup x == some .local) && (!fd.scope.isCoroutine) && (!fd.scope.isGenerator) && (fd.scope.kind == .function)) = true)
    (hbind : ∀ vs, Oks ps vs → ∃ b, bindArgs fd ⟨vs, []⟩ = pure b.reverse ∧ b.map (·.1) = names ∧ Binds b loc)
    (h : ∀ L env (B' : Bx G w n) (KF : Fl → List Ent → Prop), B'.A.frames = B.A.frames.map (env :: ·) → env.frame = some L → En env L fd.scope [] → (∀ p l l', Im l l' → KV p l' → KF (.ret p) l) → (∀ l l', Im l l' → KV .none l' → KF .next l) → WF B' ((L, nsP loc) :: l) (execs body env) KF) :
    WK B l (.ref f) ps KV := fun vs hvs s F => by
  simp only [Bool.and_eq_true, Bool.not_eq_true', beq_iff_eq] at hok
  obtain ⟨⟨⟨⟨hcell, hloc⟩, h1⟩, h2⟩, h3⟩ := hok
  have ho' := B.bs.X _ _ ho
  obtain ⟨binds, hbi, hna, hbs⟩ := hbind vs hvs
  refine (codeAny_call_def (binds := binds.reverse) B.hA.room (F.base _ _ ho') rfl (B.bs.lim.keeps F.base) ((codeRec_of B.bs.X hcd).keeps F.base) hbody (.of_eq hbi) ?_ ?_ (fun h₀ hns hk => ?_) h1 h2 h3)
  · intro y hy e
    have := List.all_eq_true.mp hcell y hy
    rw [e] at this; exact absurd this (by decide)
  · intro y hy
    have := List.all_eq_true.mp hloc y.1 (by rw [← hna]; exact List.mem_map.mpr ⟨y, List.mem_reverse.mp hy, rfl⟩)
    simpa using this
  · have nw : s.heap.get? s.heap.objs.size = none := by
      cases q : s.heap.get? s.heap.objs.size with
      | none => rfl
      | some o => exact absurd (Heap.lt_size q) (Nat.lt_irrefl _)
    refine wpAny_mono (h _ _ ⟨B.A.deeper _, B.bs, B.hA.deeper _⟩ (fun f l => ∃ l', Im l l' ∧ match f with | .ret p => KV p l' | _ => KV .none l') rfl rfl ?_ (fun p l l' h1 h2 => ⟨l', h1, h2⟩) (fun l l' h1 h2 => ⟨l', h1, h2⟩) _ (F.cons nw hk (nsP_of hns fun y => by rw [List.reverse_reverse]; exact hbs.kn y))) (fun fl s' ⟨f, l, hf, F, l', hl', z⟩ => ?_) fun _ _ z => z.elim
    · exact ⟨rfl, rfl, hcl, hg, hb⟩
    · cases f with
      | next => cases hf; exact ⟨_, _, okNo, F.im hl', z⟩
      | brk => cases hf; exact ⟨_, _, okNo, F.im hl', z⟩
      | cont => cases hf; exact ⟨_, _, okNo, F.im hl', z⟩
      | ret p => obtain ⟨v, rfl, hp⟩ := hf; exact ⟨_, _, hp, F.im hl', z⟩
theorem k_enterF {f : Addr} {fd : FuncData} {ps : List Pt} {names : List Str} {loc : Loc} {body : List Stmt} {B : Bx G w (n + 1)} (ho : (K w.params).lookup f = some { cls := .type "function", data := .func fd })
    (hcd : codeIn (K w.params) fd.code fd.qualname = true) (hbody : fd.body = .stmts body) (hg : fd.globals = mainGlobals) (hb : fd.builtins = builtinsNs) (hcl : fd.closure = [])
    (hok : ((fd.scope.names.all fun x => x.2 != .cell) && (names.all fun x => fd.scope.names.lookup x == some .local) && (!fd.scope.isCoroutine) && (!fd.scope.isGenerator) && (fd.scope.kind == .function)) = true)
    (hbind : ∀ vs, Oks ps vs → ∃ b, bindArgs fd ⟨vs, []⟩ = pure b.reverse ∧ b.map (·.1) = names ∧ Binds b loc)
    (h : ∀ L env (B' : Bx G w n) (KF : Fl → List Ent → Prop), B'.A.frames = B.A.frames.map (env :: ·) → env.frame = some L → En env L fd.scope [] → (∀ p l l', Im l l' → KV p l' → KF (.ret p) l) → (∀ l l', Im l l' → KV .none l' → KF .next l) → WF B' ((L, nsP loc) :: l) (execs body env) KF) :
    WC B l (.ref f) ps KV := (k_enterKF ho hcd hbody hg hb hcl hok hbind h).wc
theorem k_enterCF {f : Addr} {fd : FuncData} {ps : List Pt} {names : List Str} {body : List Stmt} {B : Bx G w (n + 1)} (ho : (K w.params).lookup f = some { cls := .type "function", data := .func fd })
    (hcd : codeIn (K w.params) fd.code fd.qualname = true) (hbody : fd.body = .stmts body) (hg : fd.globals = mainGlobals) (hb : fd.builtins = builtinsNs) (hcl : fd.closure = [])
    (hok : ((!fd.scope.isCoroutine) && (!fd.scope.isGenerator)) = true)
    (hbind : ∀ vs, Oks ps vs → ∃ b, bindArgs fd ⟨vs, []⟩ = pure b ∧ b.map (·.1) = names ∧ b.map (·.2) = vs)
    (h : ∀ L cs env (B' : Bx G w n) (B1 : Bx G w n) (KF : Fl → List Ent → Prop), B'.A.frames = B.A.frames.map (env :: ·) → env.frame = some L → En env L fd.scope cs → cs.map (·.1) = cellNames fd.scope.names → (∀ p l l', Im l l' → KV p l' → KF (.ret p) l) → (∀ l l', Im l l' → KV .none l' → KF .next l) →
      WBs B1 env names ps (fun l' => WF B' l' (execs body env) KF) (cellsE cs ++ (L, nsP []) :: l)) :
    WC B l (.ref f) ps KV := WK.wc fun vs hvs s F => by
  simp only [Bool.and_eq_true, Bool.not_eq_true'] at hok
  obtain ⟨h1, h2⟩ := hok
  have ho' := F.base _ _ (B.bs.X _ _ ho)
  obtain ⟨b, hbi, hna, hbs⟩ := hbind vs hvs
  refine codeAny_call_function B.hA.room ho' rfl h1 h2 hbody ((codeRec_of B.bs.X hcd).keeps F.base) (hbi ▸ wpAny_pure ?_)
  rw [hcl]
  refine wp_newEnv (K := fun env l' => WF (⟨B.A.deeper env, B.bs, B.hA.deeper env⟩ : Bx G w n) l' (execs body env) (fun f l => ∃ l', Im l l' ∧ match f with | .ret p => KV p l' | _ => KV .none l')) B.hA.in1 B.bs F (hbs ▸ hvs) (fun L cs env he hcs => ?_) fun L cs env he l' s' z F' => ⟨B.bs.lim.keeps F'.base, codeAny_func (wpAny_mono (z s' F') (fun fl s' ⟨f, l, hf, F, l', hl', z⟩ => ?_) fun _ _ z => z.elim)⟩
  · subst he
    rw [hna]
    exact h L cs _ ⟨B.A.deeper _, B.bs, B.hA.deeper _⟩ ⟨_, B.bs, B.hA.in1⟩ _ rfl rfl ⟨rfl, rfl, rfl, hg, hb⟩ hcs (fun p l l' h1 h2 => ⟨l', h1, h2⟩) (fun l l' h1 h2 => ⟨l', h1, h2⟩)
  · cases f with
    | next => cases hf; exact ⟨_, _, okNo, F.im hl', z⟩
    | brk => cases hf; exact ⟨_, _, okNo, F.im hl', z⟩
    | cont => cases hf; exact ⟨_, _, okNo, F.im hl', z⟩
    | ret p => obtain ⟨v, rfl, hp⟩ := hf; exact ⟨_, _, hp, F.im hl', z⟩
end
noncomputable def liN (a : Addr) (i : Nat) : Obj → Prop := fun o => o.cls = .type "list_iterator" ∧ o.data = .fields #[.ref a, .int i 0] ∧ o.dict = none
theorem liN_li {a : Addr} {i : Nat} : ∀ o, liN a i o → li a i o := fun _ h => ⟨h.1, h.2.1⟩
theorem entry_iter' : entryFor table "iter" = some Builtin.«iter» := entryFor_of_fast (by kernel_rfl)
theorem args_iter1 (a : Value) : argsOk "iter" ⟨[a], []⟩ := by unfold argsOk; kernel_rfl
section
variable {G : Gr} {w : World} {n m : Nat} {B : Bx G w n} {l l' : List Ent} {L : Addr} {loc loc' : Loc} {env : Env} {x : Str} {pos ap ps : Pos} {sc : Scope} {cs : List (Str × Addr)} {p q : Pt}
  {KV : Pt → List Ent → Prop} {KU : List Ent → Prop} {a b : Addr} {vs us : List Pt}
theorem c_iterL (hL : Has a (lst vs) l) (h : ∀ it, KV (.ref it) ((it, liN a 0) :: l)) : WC B l (.builtin "iter") [.ref a] KV := on1 fun v s hv F => by
  cases hv
  obtain ⟨us, ok, el⟩ := isL F hL
  refine call_function_entry (by decide +kernel) (by decide +kernel) entry_iter' (args_iter1 _) ?_
  unfold Builtin.«iter»
  refine wpAny_bind (m := someArgs "iter" 1 2 _) (wpAny_of_eq (a := [Value.ref a]) (by first | rfl | kernel_rfl) ?_)
  show wpAny _ _ (pyIter (.ref a) >>= _) _ _ _
  refine wpAny_bind (wpAny_pyIter_list el ?_)
  exact wpAny_pure ⟨_, rfl, vi okR (F.push (P := liN a 0) (t := s.toks) ⟨rfl, rfl, rfl⟩ rfl) (h _)⟩
theorem k_getNext {it : Addr} {i : Nat} (h1 : Has it (liN a i) l) (h : ∀ mw, KV (.ref mw) ((mw, mwP it) :: l)) : WV1 B l (fun ov => getAttr ov "__next__" true) (.ref it) KV := fun v hv s F => by
  cases hv
  obtain ⟨o, e, hc, hd, hdi⟩ := F.get h1
  exact getAttr_next e hc hd hdi (vi okR (F.push (P := mwP it) (t := s.toks + 1) rfl rfl) (h _))
theorem k_tcall0 {T : String} {x : Str} {p : Pos} (en : En env L sc cs) (g : nsIn (K w.params) mainGlobals x = some none) (hv : bootBuiltins x = some (.type T)) (hx : okN sc x .globalImplicit = true)
    (h : WC B l (.type T) [] KV) : WV B l (eval (.Call (.Name x p) [] [] pos) env) KV := fun s F =>
  Call_Name rfl (k_bname en g hv hx F fun s F => callWith_type0 (h _ .nil s F))
end
section
variable {G : Gr} {w : World} {l r : List Ent} {s : Shared} {fr : List Frm} {A : Around} {E : Value → Shared → Prop} {M : Model}
theorem r_note2 {e T : Addr} {cls : String} {x : Frm} {Q : Unit → Shared → Prop} (hA : A.frames = some ((x :: fr).map (·.1))) (hok : FrOk (x :: fr)) (F : St G s ((T, tbP .none) :: (e, exT cls T) :: (frL (x :: fr) ++ r)))
    (h : ∀ s' T, St G s' ((T, tbP (rawInt x.2.1)) :: (e, exT cls T) :: (frL (x :: fr) ++ r)) → Q () s') : wpAny M A (noteFrame (.ref e) x.1) Q E s := by
  obtain ⟨hf, hk⟩ := hok x (.head _)
  obtain ⟨oT, hT, ts, hdt, h3⟩ := F.get .head
  obtain ⟨oe, he, hc, vs, hd, h1⟩ := F.get (.tail .head)
  have hsz : 1 < vs.size := (Array.getElem?_eq_some_iff.mp h1).1
  have hsz3 : 3 < ts.size := (Array.getElem?_eq_some_iff.mp h3).1
  unfold noteFrame
  simp only [hf]
  refine wpAny_bind (wpAny_field he hd h1 ?_)
  rw [if_pos (show (Value.ref T != Value.none) = true from by simp)]
  refine wpAny_bind (wpAny_field hT hdt h3 ?_)
  rw [if_neg (show ¬ ((Value.none == rawInt x.2.1) = true) from by simp [rawInt])]
  refine wpAny_bind (wpAny_setField hT hdt hsz3 ?_)
  have hd4 := Obj.data_mapFields hdt (·.setIfInBounds 3 Value.none)
  have F0 : St G { s with heap := s.heap.update T (Obj.mapFields (·.setIfInBounds 3 Value.none)), toks := s.toks } ((T, tbP .none) :: (e, exT cls T) :: (frL (x :: fr) ++ r)) :=
    F.upd (P' := tbP .none) .head (fun b o hb q => (Heap.get?_update_other _ _ (Ne.symm hb)).trans q) ⟨_, Heap.get?_update_self _ hT (Obj.isFreed_of_fields hd4), _, hd4, by simp [hsz3]⟩
  have hl : Heap.FunFrames (s.heap.update T (Obj.mapFields (·.setIfInBounds 3 Value.none))) G.h₀ (x.1 :: fr.map (·.1)) := F0.funFrames hok fun p hp => .tail _ (.tail _ (List.mem_append_left _ hp))
  refine wpAny_bind (wpAny_frameOf_fun hA hl hf fun h₁ hs₁ => ?_)
  refine wpAny_bind (wpAny_entryPlaceOf fun pl hpl => ?_)
  unfold EntryCells.newEntry newFields
  refine wpAny_bind (wpAny_newObj_type ?_ (hpl.sizeOk5 _ _ _ _ _))
  have hs₂ : Heap.SlotsOnly ((x :: fr).map (·.2.1)) _ h₁ := fr_addrs hok ▸ hs₁
  have F1 : St G { s with heap := h₁ } ((e, exT cls T) :: (frL (x :: fr) ++ r)) := (St.slots (r := (e, exT cls T) :: r) (F0.drop.perm List.perm_middle.symm) hs₂).perm List.perm_middle
  obtain ⟨oe1, he1, hc1, vs1, hd1, h11⟩ := F1.get .head
  have F2 := F1.push (P := tbP (rawInt x.2.1)) (o := { cls := .type "traceback", dict := none, data := .fields ([Value.ref T, .ref x.2.1, .none, rawInt x.2.1, .none] ++ (if pl.isEmpty then List.replicate 6 Value.none else pl)).toArray }) (t := s.toks) ⟨_, rfl, by simp⟩ rfl
  have he2 := Heap.get?_push_of_some (h := h₁) { cls := .type "traceback", dict := none, data := .fields ([Value.ref T, .ref x.2.1, .none, rawInt x.2.1, .none] ++ (if pl.isEmpty then List.replicate 6 Value.none else pl)).toArray } he1
  refine wpAny_setField he2 hd1 (Array.getElem?_eq_some_iff.mp h11).1 ?_
  have hd3 := Obj.data_mapFields hd1 (·.setIfInBounds 1 (Value.ref h₁.objs.size))
  refine h _ h₁.objs.size (F2.upd (t := s.toks) (P' := exT cls h₁.objs.size) (.tail .head) (fun b o hb q => (Heap.get?_update_other _ _ (Ne.symm hb)).trans q) ⟨_, Heap.get?_update_self _ he2 (Obj.isFreed_of_fields hd3), (Obj.cls_mapFields _ _).trans hc1, _, hd3, ?_⟩)
  simp [(Array.getElem?_eq_some_iff.mp h11).1]
theorem r_leave {e : Addr} {cls : String} {x : Frm} {Q : Unit → Shared → Prop} (hA : A.frames = some ((x :: fr).map (·.1))) (hok : FrOk (x :: fr)) (F : St G s ((e, exN cls) :: (frL (x :: fr) ++ r)))
    (h : ∀ s' T, St G s' ((T, tbP .none) :: (e, exT cls T) :: (frL (x :: fr) ++ r)) → Q () s') : wpAny M A (leaving x.1 (.ref e)) Q E s := by
  unfold leaving
  exact wpAny_bind (r_note hA hok F fun s1 T F1 => r_flight F1 fun s2 F2 => h s2 T F2)
end
section
variable {G : Gr} {w : World} {n m : Nat} {B : Bx G w n} {l l' : List Ent} {L : Addr} {loc loc' : Loc} {env : Env} {x y : Str} {pos ap ps pn ph pa pb pc : Pos} {k : Nat} {sc : Scope} {cs : List (Str × Addr)} {p q : Pt}
  {KV : Pt → List Ent → Prop} {KU : List Ent → Prop} {KF : Fl → List Ent → Prop}
  {a b C dx : Addr} {vs us ps' : List Pt} {r : List Stmt} {ys : List Word} {A : Around} {s : Shared} {E : Value → Shared → Prop}
noncomputable def WX (B : Bx G w n) (l : List Ent) (m : Sem Value) (E : Value → Shared → Prop) : Prop := ∀ s, St G s l → wpAny (model pw w) B.A m (fun _ _ => False) E s
noncomputable def WXK (B : Bx G w n) (l : List Ent) (f : Value) (ps : List Pt) (E : Value → Shared → Prop) : Prop := ∀ vs, Oks ps vs → ∀ s, St G s l → codeAny (model pw w) B.A (.call f ⟨vs, []⟩) (fun r s' => match r with | .error e => E e s' | _ => False) s
theorem k_enterX {f : Addr} {fd : FuncData} {ps : List Pt} {names : List Str} {body : List Stmt} {R : Loc → List Ent → Prop} {QE : Value → Shared → Prop} {B : Bx G w (n + 1)} (ho : (K w.params).lookup f = some { cls := .type "function", data := .func fd })
    (hcd : codeIn (K w.params) fd.code fd.qualname = true) (hbody : fd.body = .stmts body) (hg : fd.globals = mainGlobals) (hb : fd.builtins = builtinsNs) (hcl : fd.closure = [])
    (hok : ((fd.scope.names.all fun x => x.2 != .cell) && (names.all fun x => fd.scope.names.lookup x == some .local) && (!fd.scope.isCoroutine) && (!fd.scope.isGenerator) && (fd.scope.kind == .function)) = true)
    (hbind : ∀ vs, Oks ps vs → ∀ s, St G s l → ∀ (A : Around) (Q : List (Str × Value) → Shared → Prop) (E : Value → Shared → Prop), (∀ b loc l' s', St G s' l' → b.map (·.1) = names → Binds b loc → R loc l' → Q b.reverse s') → wpAny (model pw w) A (bindArgs fd ⟨vs, []⟩) Q E s)
    (h : ∀ loc l₁ L env (B' : Bx G w n), B'.A.frames = B.A.frames.map (env :: ·) → env.frame = some L → R loc l₁ → En env L fd.scope [] → ∀ s, St G s ((L, nsP loc) :: l₁) → wpAny (model pw w) B'.A (execs body env) (fun _ _ => False) (fun e s' => wpAny (model pw w) B'.A (leaving env e) (fun _ s'' => QE e s'') NoE s') s) :
    WXK B l (.ref f) ps QE := fun vs hvs s F => by
  simp only [Bool.and_eq_true, Bool.not_eq_true', beq_iff_eq] at hok
  obtain ⟨⟨⟨⟨hcell, hloc⟩, h1⟩, h2⟩, h3⟩ := hok
  have ho' := F.base _ _ (B.bs.X _ _ ho)
  refine codeAny_call_function B.hA.room ho' rfl h1 h2 hbody ((codeRec_of B.bs.X hcd).keeps F.base) (hbind vs hvs s F _ _ _ fun b loc l₁ s F hna hbs hR => ?_)
  refine wpAny_newFunctionEnv ?_ ?_ (fun h₀ hns hsb => ?_) h3
  · intro y hy e
    have := List.all_eq_true.mp hcell y hy
    rw [e] at this; exact absurd this (by decide)
  · intro y hy
    have := List.all_eq_true.mp hloc y.1 (by rw [← hna]; exact List.mem_map.mpr ⟨y, List.mem_reverse.mp hy, rfl⟩)
    simpa using this
  · have hk : ∀ b o, s.heap.get? b = some o → h₀.get? b = some o := fun b o e => hsb.extBut b o (Nat.ne_of_lt (Heap.lt_size e)) (Heap.get?_push_of_some _ e)
    have nw : s.heap.get? s.heap.objs.size = none := by
      cases q : s.heap.get? s.heap.objs.size with
      | none => rfl
      | some o => exact absurd (Heap.lt_size q) (Nat.lt_irrefl _)
    refine ⟨(B.bs.lim.keeps F.base).keeps hk, codeAny_func (wpAny_mono (h loc l₁ _ _ ⟨B.A.deeper _, B.bs, B.hA.deeper _⟩ rfl rfl hR ⟨rfl, rfl, hcl, hg, hb⟩ _ (F.cons nw hk (nsP_of hns fun y => by rw [List.reverse_reverse]; exact hbs.kn y))) (fun _ _ z => z.elim) fun e s' z => ?_)⟩
    exact wpAny_mono z (fun _ _ z => z) fun _ _ z => z.elim
noncomputable def bmP (f x : Addr) : Obj → Prop := fun o => o = methodObj (.ref f) (.ref x)
noncomputable def bndOk (P : Params) (C : Addr) (name : Str) (f : Addr) : Bool := plainGet (K P) C name && hasDictIn (K P) C && (findIn (K P) (.ref C) name == some (some (.ref f))) && isFn (K P) (.ref f) && (specialIn (K P) (.ref f) "__get__" == some (some (.builtin "function.__get__"))) && (takesIn (K P) (.ref f) == some false) && !(copiedNames.contains name)
theorem k_bound {at' : Str} {f : Addr} {sl : List (Option Pt)} (i d : Nat) (h1 : gE l i = some (a, inst C dx sl)) (h2 : gE l d = some (dx, dicP loc)) (h3 : (loc.lookup at').isNone = true) (hx : bndOk w.params C at' f = true) (h : ∀ mo, KV (.ref mo) ((mo, bmP f a) :: l)) : WV1 B l (fun ov => getAttr ov at' true) (.ref a) KV := fun v hv' s F => by
  cases hv'
  simp only [bndOk, Bool.and_eq_true, beq_iff_eq, Bool.not_eq_true'] at hx
  obtain ⟨⟨⟨⟨⟨⟨g1, g2⟩, g3⟩, g4⟩, g5⟩, g6⟩, g7⟩ := hx
  obtain ⟨vs, od, _, I, kn⟩ := instAt F (Has.of h1) (Has.of h2)
  obtain ⟨v, e, k⟩ := kn at'
  rw [Option.isNone_iff_eq_none.mp h3] at k
  cases k
  have X := B.bs.X.keeps F.base
  obtain ⟨hh', g, dr, tk, os⟩ := s
  exact get_bind X I (plainGet_of g1).1 (findObj_fn g2 g3 g5 g6 g7 e) (plainGet_of g1).2
    (wpAny_call (fn_get (s := ⟨hh', g, dr, tk + 1, os⟩) X (beq_iff_eq.mp g4) (handed_on rfl (vi okR (F.push (P := bmP f a) (t := tk + 1) rfl rfl) (h _)))))
theorem keeper_bm {M : Model} {h : Heap} {mo f x : Addr} {fd : FuncData} (h1 : h.get? mo = some (methodObj (.ref f) (.ref x))) (h2 : h.get? f = some { cls := .type "function", data := .func fd }) : Looks M h (keeperOf (.ref mo)) .boundFrame := by
  intro A Q E s k q
  unfold keeperOf
  refine wpAny_bind (wpAny_load (k _ _ h1) ?_)
  simp only [methodObj, show (Value.type "method" != Value.type "method") = false by decide, Bool.false_eq_true, if_false]
  show wpAny _ _ (load f >>= _) _ _ _
  exact wpAny_bind (wpAny_load (k _ _ h2) (wpAny_pure q))
theorem bm_call {o : Expr} {name : Str} {args : List Expr} {Q : Value → Shared → Prop} {E : Value → Shared → Prop} {s : Shared}
    (hst : (backTo pos (starEach args env)).any (·.1) = true)
    (h : wpAny (model pw w) B.A (eval o env) (fun ov s₁ => wpAny (model pw w) B.A (getAttr ov name true) (fun v s₂ => ∃ mo f x fd, v = .ref mo ∧ wpAny (model pw w) B.A (evalArgs (.ref mo) true (backTo pos (starEach args env)) [])
      (fun a s₃ => (s₃.heap.get? mo = some (methodObj (.ref f) (.ref x)) ∧ s₃.heap.get? f = some { cls := .type "function", data := .func fd }) ∧ codeAny (model pw w) B.A (.call (.ref f) ⟨.ref x :: a.pos, a.kw⟩) (fun r s' => match r with | .ok (.ret v) => Q v s' | .ok _ => False | .error e => E e s') s₃) E s₂) E s₁) E s)
    (he : eval (.Call (.Attribute o name ap) args [] pos) env = (do
      let ov ← eval o env
      standAt ap.atName
      let (f, first) ← holding [ov] (do pure (← getAttr ov name true, []))
      callWith pos f first (backTo pos (starEach args env)) []) := by rfl) : wpAny (model pw w) B.A (eval (.Call (.Attribute o name ap) args [] pos) env) Q E s := by
  rw [he]
  refine wpAny_bind (wpAny_mono h (fun ov s₁ h₁ => wpAny_bind (wpAny_standAt (wpAny_bind (wpAny_holding (wpAny_bind (wpAny_mono h₁ (fun v s₂ h₂ => wpAny_pure ?_) fun _ _ x => x)))))) fun _ _ x => x)
  obtain ⟨mo, f, x, fd, rfl, h₂⟩ := h₂
  refine ks_call (P := fun h => h.get? mo = some (methodObj (.ref f) (.ref x)) ∧ h.get? f = some { cls := .type "function", data := .func fd }) hst (fun h hp => ⟨_, .inr (.inr rfl), keeper_bm hp.1 hp.2⟩) (wpAny_mono h₂ (fun a s₃ h₃ => ⟨h₃.1, ?_⟩) fun _ _ x => x)
  exact wpAny_call (ks_codeAny_call_bound h₃.1.1 h₃.2)
noncomputable abbrev qGetB (B : Bx G w n) (name : Str) (K : Pt → List Ent → Prop) : Pt → List Ent → Prop := fun q l => WV1 B l (fun ov => getAttr ov name true) q K
noncomputable abbrev qBM (B : Bx G w n) (pos : Pos) (args : List Expr) (env : Env) (f : Addr) (fd : FuncData) (KV : Pt → List Ent → Prop) : Pt → List Ent → Prop := fun q l => ∃ mo a, q = .ref mo ∧ (∃ i, gE l i = some (mo, bmP f a)) ∧ (K w.params).lookup f = some { cls := .type "function", data := .func fd } ∧ WL B l (spliced (backTo pos (starEach args env))) (fun ps l => Has mo (bmP f a) l ∧ WK B l (.ref f) (.ref a :: ps) KV)
theorem k_imethB {o e : Expr} {rest : List Expr} {name : Str} (f : Addr) (fd : FuncData) (h : WV B l (eval o env) (qGetB B name (qBM B pos (e :: rest) env f fd KV)))
    (hs : starEach (e :: rest) env = (false, eval e env) :: starEach rest env := by rfl) (hst : (backTo pos (starEach rest env)).any (·.1) = true := by rfl)
    (he : eval (.Call (.Attribute o name ap) (e :: rest) [] pos) env = (do
      let ov ← eval o env
      standAt ap.atName
      let (f, first) ← holding [ov] (do pure (← getAttr ov name true, []))
      callWith pos f first (backTo pos (starEach (e :: rest) env)) []) := by rfl) : WV B l (eval (.Call (.Attribute o name ap) (e :: rest) [] pos) env) KV := fun s F =>
  bm_call (by rw [hs]; show (false || (backTo pos (starEach rest env)).any (·.1)) = true; rw [hst]; rfl) (h.use F fun ov p l s hp h F => (h ov hp).use F fun v q l s hq h F => by
    obtain ⟨mo, a, rfl, _, ho, h⟩ := h
    cases hq
    refine ⟨mo, f, a, fd, rfl, k_args (h.use F fun vs ps l s hps h F => ?_) hs⟩
    obtain ⟨om, em, rfl⟩ := F.get h.1
    refine ⟨⟨em, F.base _ _ (B.bs.X _ _ ho)⟩, codeAny_mono (h.2 _ (.cons okR hps) s F) fun r s' z => ?_⟩
    rcases r with e | (v | _ | _ | _) <;> first | exact z | exact z.elim) he
noncomputable abbrev qBS (B : Bx G w n) (e : Expr) (env : Env) (f : Addr) (fd : FuncData) (KV : Pt → List Ent → Prop) : Pt → List Ent → Prop := fun q l => ∃ mo a, q = .ref mo ∧ (∃ i, gE l i = some (mo, bmP f a)) ∧ (K w.params).lookup f = some { cls := .type "function", data := .func fd } ∧ WV B l (eval e env) (fun p l => ∃ b us, p = .ref b ∧ SeqE l b us ∧ us.length ≤ 1000000 ∧ Has mo (bmP f a) l ∧ WK B l (.ref f) (.ref a :: us) KV)
theorem k_imethBS {o e : Expr} {name : Str} (f : Addr) (fd : FuncData) (h : WV B l (eval o env) (qGetB B name (qBS B e env f fd KV)))
    (hs : starEach [.Starred e ps] env = [(true, eval e env)] := by rfl)
    (he : eval (.Call (.Attribute o name ap) [.Starred e ps] [] pos) env = (do
      let ov ← eval o env
      standAt ap.atName
      let (f, first) ← holding [ov] (do pure (← getAttr ov name true, []))
      callWith pos f first (backTo pos (starEach [.Starred e ps] env)) []) := by rfl) : WV B l (eval (.Call (.Attribute o name ap) [.Starred e ps] [] pos) env) KV := fun s F =>
  bm_call (by rw [hs]; rfl) (h.use F fun ov p l s hp h F => (h ov hp).use F fun v q l s hq h F => by
    obtain ⟨mo, a, rfl, _, ho, h⟩ := h
    cases hq
    refine ⟨mo, f, a, fd, rfl, ?_⟩
    rw [hs]
    refine ks_lone (h.use F fun v p l s hp h F => ?_)
    obtain ⟨b, us, rfl, h1, h2, h3, h4⟩ := h
    cases hp
    refine star_of F h1 h2 fun vs s' hv F' => ?_
    obtain ⟨om, em, rfl⟩ := F'.get h3
    refine ⟨⟨em, F'.base _ _ (B.bs.X _ _ ho)⟩, codeAny_mono (h4 _ (.cons okR hv) s' F') fun r s' z => ?_⟩
    rcases r with e | (v | _ | _ | _) <;> first | exact z | exact z.elim) he
noncomputable abbrev qBX (B : Bx G w n) (pos : Pos) (args : List Expr) (env : Env) (f : Addr) (fd : FuncData) (QE : Value → Shared → Prop) : Pt → List Ent → Prop := fun q l => ∃ mo a, q = .ref mo ∧ (∃ i, gE l i = some (mo, bmP f a)) ∧ (K w.params).lookup f = some { cls := .type "function", data := .func fd } ∧ WL B l (spliced (backTo pos (starEach args env))) (fun ps l => Has mo (bmP f a) l ∧ WXK B l (.ref f) (.ref a :: ps) QE)
theorem k_imethX {o e : Expr} {rest : List Expr} {name : Str} {QE : Value → Shared → Prop} (f : Addr) (fd : FuncData) (h : WV B l (eval o env) (qGetB B name (qBX B pos (e :: rest) env f fd QE)))
    (hs : starEach (e :: rest) env = (false, eval e env) :: starEach rest env := by rfl) (hst : (backTo pos (starEach rest env)).any (·.1) = true := by rfl)
    (he : eval (.Call (.Attribute o name ap) (e :: rest) [] pos) env = (do
      let ov ← eval o env
      standAt ap.atName
      let (f, first) ← holding [ov] (do pure (← getAttr ov name true, []))
      callWith pos f first (backTo pos (starEach (e :: rest) env)) []) := by rfl) : WX B l (eval (.Call (.Attribute o name ap) (e :: rest) [] pos) env) QE := fun s F =>
  bm_call (by rw [hs]; show (false || (backTo pos (starEach rest env)).any (·.1)) = true; rw [hst]; rfl) (wpAny_mono (h.use F fun ov p l s hp h F => wpAny_mono ((h ov hp).use F fun v q l s hq h F => by
    obtain ⟨mo, a, rfl, _, ho, h⟩ := h
    cases hq
    refine ⟨mo, f, a, fd, rfl, k_args (wpAny_mono (h.use F fun vs ps l s hps h F => ?_) (fun _ _ z => z) fun _ _ z => z.elim) hs⟩
    obtain ⟨om, em, rfl⟩ := F.get h.1
    refine ⟨⟨em, F.base _ _ (B.bs.X _ _ ho)⟩, codeAny_mono (h.2 _ (.cons okR hps) s F) fun r s' z => ?_⟩
    rcases r with e | (v | _ | _ | _) <;> first | exact z | exact z.elim) (fun _ _ z => z) fun _ _ z => z.elim) (fun _ _ z => z) fun _ _ z => z.elim) he
theorem k_tryX {e : Expr} {b₀ : Stmt} {suite : List Stmt} {xf : Frm} {fr : List Frm} {cls Th : String} {Kx : List Ent → Prop} (hA : B.A.frames = some ((xf :: fr).map (·.1))) (hok : FrOk (xf :: fr)) (hxf : xf.1 = env) (en : En env L sc cs)
    (hx : okN sc x .globalImplicit = true) (hk : (sc.kind == .function) = true)
    (hexc : isSubtype (.type Th) (.type "BaseException") = pure true) (hnt : isSubtype (.type ((Manifest.find? Th).elim "type" fun x => x.metatype)) (.type "tuple") = pure false) (hsub : isSubtype (.type cls) (.type Th) = pure true)
    (g : nsIn (K w.params) mainGlobals x = some none) (hv : bootBuiltins x = some (.type Th))
    (h : WX B l (eval e env) (fun v s' => ∃ ea T r', v = .ref ea ∧ St G s' ((T, tbP .none) :: (ea, exT cls T) :: (frL (xf :: fr) ++ r')) ∧ Kx (frL (xf :: fr) ++ r')))
    (hs : ∀ ea l' s', Kx l' → St G s' l' → wpAny (model pw w) (B.A.mark (some (.ref ea))) (execs (b₀ :: suite) env) (fun f s'' => ∃ fl l', Fl.ok fl f ∧ St G s'' l' ∧ Nx B env r KF fl l') NoE s')
    (hsw : swapsWith e none pa.line env = pure false := by rfl) :
    WF B l (execs (.Try [.Expr e pa] [.ExceptHandler (some (.Name x pn)) none (b₀ :: suite) ph] [] [] pos :: r) env) KF := .cons fun s F => by
  subst hxf
  refine wpAny_Try_except (wpAny_execs_cons (wpAny_Expr_any (wpAny_mono (h s F) (fun _ _ z => z.elim) fun v s1 ⟨ea, T, r', e, F1, hK⟩ => ?_) (by
    have : sc.kind = .function := by simpa using hk
    show (xf.1.scope.kind == .module && _) = false
    rw [en.s, this]; rfl) hsw))
  subst e
  refine r_note2 hA hok F1 fun s2 T2 F2 => ?_
  refine r_catch B.bs en F2 hexc hnt hsub g hv hx fun s3 F3 => ?_
  exact hs ea _ s3 hK F3.drop.drop
end
noncomputable def pdP : Pt → PyData
  | .int i => .int i
  | .str y => .str (S y)
  | .bool b => .bool b
  | _ => .none
noncomputable def flat : Pt → Bool
  | .int _ => true
  | .str y => y.all fun c => decide (c < 1114112)
  | .bool _ => true
  | .none => true
  | _ => false
theorem reads_of {h : Heap} {p : Pt} {v : Value} (hp : p.ok v) (hf : flat p = true) : Reads h v (pdP p) [] := by
  cases p with
  | int i => obtain ⟨t, rfl⟩ := hp; exact .int _ _
  | str y => obtain ⟨t, rfl⟩ := hp; exact .str _ _
  | none => cases hp; exact .none
  | bool b => cases hp; exact .bool _
  | ref _ => cases hf
  | bi _ => cases hf
  | ty _ => cases hf
  | any => cases hf
theorem readsAll_of {h : Heap} {ps : List Pt} {vs : List Value} (hp : Oks ps vs) (hf : ps.all flat = true) : ReadsAll h vs (ps.map pdP) [] := by
  induction hp with
  | nil => exact .nil
  | cons hp _ ih =>
    rw [List.all_cons, Bool.and_eq_true] at hf
    exact .cons (reads_of hp hf.1) (ih hf.2)
theorem lay_all {ps : List Pt} (hf : ps.all flat = true) : PyData.canLayAll0 (ps.map pdP) = true ∧ PyData.depthAll (ps.map pdP) = 0 := by
  induction ps with
  | nil => simp [PyData.canLayAll0, PyData.depthAll]
  | cons p ps ih =>
    rw [List.all_cons, Bool.and_eq_true] at hf
    obtain ⟨h1, h2⟩ := ih hf.2
    have h3 : (pdP p).canLay0 = true ∧ (pdP p).depth = 0 := by
      cases p with
      | int i => simp [pdP, PyData.canLay0, PyData.depth]
      | str y =>
        have := hf.1
        simp only [pdP, PyData.canLay0, PyData.depth, PyData.strOk, S, and_true]
        simpa [flat] using this
      | none => simp [pdP, PyData.canLay0, PyData.depth]
      | bool b => simp [pdP, PyData.canLay0, PyData.depth]
      | ref _ => cases hf.1
      | bi _ => cases hf.1
      | ty _ => cases hf.1
      | any => cases hf.1
    rw [List.map_cons]
    simp only [PyData.canLayAll0, PyData.depthAll, h1, h2, h3.1, h3.2, Bool.and_self, Nat.max_self, and_self]
theorem shaped_tup {ps : List Pt} (hf : ps.all flat = true) : SeqAt.shaped (.tuple (ps.map pdP)) = true := by
  obtain ⟨h1, h2⟩ := lay_all hf
  simp [SeqAt.shaped, PyData.canLay0, PyData.depth, h1, h2]
theorem shaped_lst {ps : List Pt} (hf : ps.all flat = true) : SeqAt.shaped (.list (ps.map pdP)) = true := by
  obtain ⟨h1, h2⟩ := lay_all hf
  simp [SeqAt.shaped, PyData.canLay0, PyData.depth, h1, h2]
theorem eqv_strs : ∀ (ys zs : List Word), PyData.eqvAll ((ys.map Pt.str).map pdP) ((zs.map Pt.str).map pdP) = (ys == zs)
  | [], [] => rfl
  | [], _ :: _ => rfl
  | _ :: _, [] => rfl
  | y :: ys, z :: zs => by
    simp only [List.map_cons, PyData.eqvAll, pdP, PyData.eqv, S_beq, eqv_strs ys zs]
    rfl
theorem eqv_ints : ∀ (ys zs : List Int), PyData.eqvAll ((ys.map Pt.int).map pdP) ((zs.map Pt.int).map pdP) = (ys == zs)
  | [], [] => rfl
  | [], _ :: _ => rfl
  | _ :: _, [] => rfl
  | y :: ys, z :: zs => by
    simp only [List.map_cons, PyData.eqvAll, pdP, PyData.eqv, eqv_ints ys zs]
    rfl
theorem flat_ints (ys : List Int) : (ys.map Pt.int).all flat = true := by
  rw [List.all_map, List.all_eq_true]
  intro _ _; rfl
noncomputable def okW (y : Word) : Prop := (y.all fun c => decide (c < 1114112)) = true
theorem flat_strs {ys : List Word} (h : ∀ y ∈ ys, okW y) : (ys.map Pt.str).all flat = true := by
  rw [List.all_map, List.all_eq_true]
  exact fun y hy => h y hy
section
variable {G : Gr} {w : World} {n m : Nat} {B : Bx G w n} {l l' : List Ent} {a b : Addr} {vs us ps qs : List Pt} {KV : Pt → List Ent → Prop}
noncomputable def RdP (G : Gr) (l : List Ent) (a : Addr) (d : PyData) : Prop := ∀ s, St G s l → ∃ as, Reads s.heap (.ref a) d as
theorem RdP.tup (i : Nat) (h : gE l i = some (a, tup ps)) (hf : ps.all flat = true) : RdP G l a (.tuple (ps.map pdP)) := fun s F => by
  obtain ⟨vs, k, ok, e⟩ := F.trec (Has.of h)
  exact ⟨_, .tuple e rfl rfl (readsAll_of ok hf)⟩
theorem RdP.lst (i : Nat) (h : gE l i = some (a, lst ps)) (hf : ps.all flat = true) : RdP G l a (.list (ps.map pdP)) := fun s F => by
  obtain ⟨vs, k, ok, e⟩ := F.lrec (Has.of h)
  exact ⟨_, .list e rfl rfl (readsAll_of ok hf)⟩
theorem cmp_room {A : Around} {n : Nat} (h : Ar A n) : A.units + 64 < cLine := by
  have := h.un
  show _ < 9900
  omega
theorem k_eqD {d e : PyData} (h1 : RdP G l a d) (h2 : RdP G l b e) (hd : SeqAt.shaped d = true) (he : SeqAt.shaped e = true) (h : KV (.bool (PyData.eqv d e)) l) : WV2 B l (compareOp .Eq) (.ref a) (.ref b) KV := fun v u hv hu s F => by
  cases hv
  cases hu
  obtain ⟨as, r1⟩ := h1 s F
  obtain ⟨bs, r2⟩ := h2 s F
  exact SeqAt.compareEq_shaped r1 r2 hd he (cmp_room B.hA) (vi okB F h)
theorem k_neD {d e : PyData} (h1 : RdP G l a d) (h2 : RdP G l b e) (hd : SeqAt.shaped d = true) (he : SeqAt.shaped e = true) (h : KV (.bool (!PyData.eqv d e)) l) : WV2 B l (compareOp .NotEq) (.ref a) (.ref b) KV := fun v u hv hu s F => by
  cases hv
  cases hu
  obtain ⟨as, r1⟩ := h1 s F
  obtain ⟨bs, r2⟩ := h2 s F
  exact SeqAt.compareNe_shaped r1 r2 hd he (cmp_room B.hA) (vi okB F h)
end
section
variable {G : Gr} {w : World} {n m : Nat} {B : Bx G w n} {l l' : List Ent} {KV : Pt → List Ent → Prop}
theorem k_enterVK {f : Addr} {fd : FuncData} {ps rest : List Pt} {names : List Str} {nm : Str} {loc : Loc} {body : List Stmt} {B : Bx G w (n + 1)} (ho : (K w.params).lookup f = some { cls := .type "function", data := .func fd })
    (hcd : codeIn (K w.params) fd.code fd.qualname = true) (hbody : fd.body = .stmts body) (hg : fd.globals = mainGlobals) (hb : fd.builtins = builtinsNs) (hcl : fd.closure = [])
    (hok : ((fd.scope.names.all fun x => x.2 != .cell) && ((nm :: names).all fun x => fd.scope.names.lookup x == some .local) && (!fd.scope.isCoroutine) && (!fd.scope.isGenerator) && (fd.scope.kind == .function)) = true)
    (hz : rest.length ≤ 1000000)
    (hbind : ∀ vs us, Oks ps vs → ∃ b, (bindArgs fd ⟨vs ++ us, []⟩ = newTuple us >>= fun t => pure (((nm, t) :: b).reverse)) ∧ b.map (·.1) = names ∧ Binds b loc)
    (h : ∀ ta L env (B' : Bx G w n) (KF : Fl → List Ent → Prop), En env L fd.scope [] → (∀ p l l', Im l l' → KV p l' → KF (.ret p) l) → (∀ l l', Im l l' → KV .none l' → KF .next l) → WF B' ((L, nsP (bd nm (.ref ta) :: loc)) :: (ta, tup rest) :: l) (execs body env) KF) :
    WK B l (.ref f) (ps ++ rest) KV := by
  refine k_enterB (ps := ps ++ rest) (names := nm :: names) (R := fun lc l' => ∃ ta, lc = bd nm (.ref ta) :: loc ∧ l' = (ta, tup rest) :: l) ho hcd hbody hg hb hcl hok (fun vs hvs s F A Q E hQ => ?_) fun lc l₁ L env B' KF hR => ?_
  · obtain ⟨us, ws, e, h1, h2⟩ := hvs.split
    subst e
    obtain ⟨b, e, hna, hbs⟩ := hbind us ws h1
    rw [e]
    refine wpAny_bind (wpAny_newTuple (wpAny_pure ?_) (by rw [h2.len]; exact sz hz))
    exact hQ ((nm, .ref s.heap.objs.size) :: b) _ _ _ (F.push (P := tup rest) (t := s.toks) ⟨ws, _, h2, rfl⟩ rfl) (by simp [hna]) (.cons okR hbs) ⟨_, rfl, rfl⟩
  · obtain ⟨ta, rfl, rfl⟩ := hR
    exact h ta L env B' KF
theorem k_strAny {y : Str} {env : Env} {pos : Pos} {k : Nat} (h : ∀ z, KV (.str z) l) : WV B l (eval (.Constant (.str y) k pos) env) KV := by
  obtain ⟨arr⟩ := y
  exact k_str arr.toList (by simp [S]) (h _)
theorem WK.im {f : Value} {ps : List Pt} (h : Im l l') (k : WK B l' f ps KV) : WK B l f ps KV := fun vs hv s F => k vs hv s (F.im h)
end
section
variable {prog : Program} {w : World} {A : Around} {E : Value → Shared → Prop} {s : Shared}
theorem nextOf_tuple_item {it l : Addr} {i : Nat} {items} {x : Value} {Q : Value → Shared → Prop} (hit : s.heap.IsTupleIter it l i)
    (hl : s.heap.IsTuple l items) (hx : items[i]? = some x)
    (hQ : ∀ h', h'.IsTupleIter it l (i + 1) → Heap.SameBut it s.heap h' → Q x { s with heap := h' }) :
    wpAny (model prog w) A (Builtin.SmallTypes.nextOf (.ref it)) Q E s := by
  obtain ⟨o, ho, hc, hd⟩ := id hit
  obtain ⟨ol, hol, _, nl, hdl⟩ := hl
  unfold Builtin.SmallTypes.nextOf
  refine wpAny_bind (wpAny_callSpecial?_slot (name := Str.ofString "__next__") hit.typeIs PySem.F.slot_tuple_iterator_next
    (wpAny_call_entry PySem.F.slot_tuple_iterator_next hit.typeIs PySem.F.entry_tuple_iterator_next ?_ (PySem.F.args_tuple_iterator_next_1 _)))
  show wpAny _ _ (field (.ref it) 0 >>= _) _ _ s
  refine wpAny_bind (wpAny_field ho hd (x := .ref l) rfl ?_)
  show wpAny _ _ (if (Value.ref l == Value.none) = true then _ else _) _ _ s
  rw [if_neg (show ¬ ((Value.ref l == Value.none) = true) from Bool.false_ne_true)]
  show wpAny _ _ (field (.ref it) 1 >>= _) _ _ s
  refine wpAny_bind (wpAny_field ho hd (x := .int i 0) rfl ?_)
  show wpAny _ _ (seqItems? (.ref l) >>= _) _ _ s
  refine wpAny_bind (wpAny_seqItems hol hdl ?_)
  simp only [Int.toNat_natCast, hx]
  refine wpAny_bind (wpAny_setField ho hd (by simp) (wpAny_pure ⟨x, rfl, wpAny_pure (hQ _ ?_ (Heap.SameBut.update ..))⟩))
  exact ⟨_, Heap.get?_update_self _ ho (Obj.isFreed_of_fields (Obj.data_mapFields hd _)), (Obj.cls_mapFields ..).trans hc, by
    rw [Obj.data_mapFields hd]; simp [rawInt]⟩
theorem nextOf_tuple_end {it l : Addr} {i : Nat} {items} {Q : Value → Shared → Prop} (hh : A.handled = none)
    (hit : s.heap.IsTupleIter it l i) (hl : s.heap.IsTuple l items) (hx : items[i]? = none)
    (hE : ∀ h' e, Heap.ExtBut it s.heap h' → (∃ o, h'.get? e = some o ∧ o.cls = .type "StopIteration") → E (.ref e) { s with heap := h' }) :
    wpAny (model prog w) A (Builtin.SmallTypes.nextOf (.ref it)) Q E s := by
  obtain ⟨o, ho, hc, hd⟩ := id hit
  obtain ⟨ol, hol, _, nl, hdl⟩ := hl
  unfold Builtin.SmallTypes.nextOf
  refine wpAny_bind (wpAny_callSpecial?_slot (name := Str.ofString "__next__") hit.typeIs PySem.F.slot_tuple_iterator_next
    (wpAny_call_entry PySem.F.slot_tuple_iterator_next hit.typeIs PySem.F.entry_tuple_iterator_next ?_ (PySem.F.args_tuple_iterator_next_1 _)))
  show wpAny _ _ (field (.ref it) 0 >>= _) _ _ s
  refine wpAny_bind (wpAny_field ho hd (x := .ref l) rfl ?_)
  show wpAny _ _ (if (Value.ref l == Value.none) = true then _ else _) _ _ s
  rw [if_neg (show ¬ ((Value.ref l == Value.none) = true) from Bool.false_ne_true)]
  show wpAny _ _ (field (.ref it) 1 >>= _) _ _ s
  refine wpAny_bind (wpAny_field ho hd (x := .int i 0) rfl ?_)
  show wpAny _ _ (seqItems? (.ref l) >>= _) _ _ s
  refine wpAny_bind (wpAny_seqItems hol hdl ?_)
  simp only [Int.toNat_natCast, hx]
  refine wpAny_bind (wpAny_rule (wpAny_bind (wpAny_setField ho hd (by simp) ?_)))
  show wpAny _ _ (newExc (.type "StopIteration") [] >>= _) _ _ _
  refine wpAny_bind ?_
  simp only [newExc, newTuple]
  refine wpAny_bind (wpAny_newObj_type ?_ (by size_fits))
  refine wpAny_bind (m := firstArgMember _ _) (wpAny_of_eq (a := Value.none) (by first | rfl | (simp only [firstArgMember]; rfl)) ?_)
  refine wpAny_newObj_type ?_ (by size_fits)
  simp only [raiseNew]
  refine wpAny_bind (wpAny_handled ?_)
  first | rw [show A.in1.handled = none from hh] | rw [hh]
  refine wpAny_bind (wpAny_pure (wpAny_throw ?_))
  exact hE _ _ (((Heap.SameBut.update ..).extBut.push _).push _) ⟨_, Heap.get?_push_size _ rfl, rfl⟩
theorem tupIter_at {h h' : Heap} {a l i} (x : h.IsTupleIter a l i) (e : ∀ o, h.get? a = some o → h'.get? a = some o) : h'.IsTupleIter a l i := let ⟨o, ho, r⟩ := x; ⟨o, e _ ho, r⟩
theorem tuple_at {h h' : Heap} {a items} (x : h.IsTuple a items) (e : ∀ o, h.get? a = some o → h'.get? a = some o) : h'.IsTuple a items := let ⟨o, ho, r⟩ := x; ⟨o, e _ ho, r⟩
theorem draws_tuple (hh : A.handled = none) (it l : Addr) (hne : l ≠ it) (items : Array Value) :
    Draws prog w A it [it, l] items.size (fun i v => items[i]? = some v) (fun i h => h.IsTupleIter it l i ∧ h.IsTuple l items) where
  live := fun _ _ st => let ⟨o, ho, _⟩ := st.1; ⟨o, ho⟩
  frame := fun _ _ _ st hk => ⟨tupIter_at st.1 fun o e => hk it (by simp) o e, tuple_at st.2 fun o e => hk l (by simp) o e⟩
  item := fun i s Q E hi st hQ => by
    refine nextOf_tuple_item st.1 st.2 (x := items[i]) (by simp [hi]) fun h' hit' hs' => ?_
    exact hQ _ h' s.toks (by simp [hi]) ⟨hit', tuple_at st.2 fun o e => hs'.extBut l o hne e⟩ hs'
  done := fun s Q E st hE => nextOf_tuple_end hh st.1 st.2 (by simp) hE
end
theorem meets_enum_tup (l : Addr) (items : Array Value) (n : Nat) :
    Meets (Builtin.«enumerate.__new__» ⟨[.type "enumerate", .ref l], []⟩) (fun _ R s => s.heap.get? l = some { cls := .type "tuple", dict := none, data := .seq items n, slots := #[] } ∧
      R (.ok (.ret (.ref (s.heap.push { cls := .type "tuple_iterator", data := .fields #[.ref l, .int 0 0] }).objs.size)))
        { s with heap := (s.heap.push { cls := .type "tuple_iterator", data := .fields #[.ref l, .int 0 0] }).push { cls := .type "enumerate", data := .fields #[.none, .bool false, .ref s.heap.objs.size, rawInt 0, .none, .none] } }) :=
  .of_wp fun prog w A R s h => by
    obtain ⟨hp, g, d, tk, os⟩ := s; obtain ⟨hl, h⟩ := h
    have hsub := sub_enumerate
    have hL : Heap.IsTuple (Shared.heap ⟨hp, g, d, tk, os⟩) l items := ⟨_, hl, rfl, n, rfl⟩
    wp_walk using AutoSeq1.wpAny_loadPart' hl
    refine wpAny_stack_any fun st => wpAny_pure ?_
    split
    · rename_i c _ _ _ _ _
      cases (c == Value.type "enumerate")
      · wp_walk using AutoSeq1.wpAny_loadPart' hl, wpAny_pyIter_tuple hL
        exact ⟨_, rfl, h⟩
      · wp_walk using AutoSeq1.wpAny_loadPart' hl, wpAny_pyIter_tuple hL
        exact ⟨_, rfl, h⟩
    · wp_walk using AutoSeq1.wpAny_loadPart' hl, wpAny_pyIter_tuple hL
      exact ⟨_, rfl, h⟩
noncomputable def enE (it : Addr) (i : Nat) (f0 : Value) : Obj → Prop := fun o => ∃ old, o = { cls := .type "enumerate", dict := none, data := .fields #[f0, .bool false, .ref it, rawInt i, .none, old], slots := #[] }
noncomputable def BT (G : Gr) (a : Addr) (vs : List Pt) : Prop := ∃ us n, Oks vs us ∧ G.h₀.get? a = some { cls := .type "tuple", dict := none, data := .seq us.toArray n, slots := #[] }
section
variable {G : Gr} {w : World} {n m : Nat} {B : Bx G w n} {l l' : List Ent} {L : Addr} {env : Env} {x : Str} {pos ps : Pos} {p q : Pt}
  {KV : Pt → List Ent → Prop} {KU : List Ent → Prop} {KF : Fl → List Ent → Prop} {a b : Addr} {vs us : List Pt} {r : List Stmt} {s : Shared}
theorem BT.at (h : BT G a vs) (F : St G s l) : ∃ us, Oks vs us ∧ s.heap.IsTuple a us.toArray := let ⟨us, n, k, e⟩ := h; ⟨us, k, _, F.base _ _ e, rfl, n, rfl⟩
theorem c_enumB (h1 : BT G a vs) (h : ∀ e it, KV (.ref e) ((e, enE it 0 .none) :: (it, ti a 0) :: l)) : WC B l (.type "enumerate") [.ref a] KV := on1 fun v s hv F => by
  cases hv
  obtain ⟨us, n, k, e⟩ := h1
  have hl := F.base _ _ e
  refine callType_new PySem.F.called_enumerate (by decide) (PySem.F.typeCall_enumerate_1 _) (PySem.F.newCall_enumerate_1 _) (fun obj => PySem.F.args_object_init_2 obj _) PySem.F.entry_enumerate_new
    (meets_enum_tup a us.toArray n) ⟨hl, ?_⟩
  have F1 := F.push (P := ti a 0) (o := { cls := .type "tuple_iterator", data := .fields #[.ref a, .int 0 0] }) (t := s.toks) ⟨rfl, rfl⟩ rfl
  have F2 := F1.push (P := enE s.heap.objs.size 0 .none) (o := { cls := .type "enumerate", data := .fields #[.none, .bool false, .ref s.heap.objs.size, rawInt 0, .none, .none] }) (t := s.toks) ⟨.none, rfl⟩ rfl
  exact ⟨⟨_, Heap.get?_push_size _ rfl, rfl⟩, vi okR F2 (h _ _)⟩
theorem k_iterTB (h1 : BT G a vs) (h : ∀ it, KV (.ref it) ((it, ti a 0) :: l)) : WV1 B l pyIter (.ref a) KV := fun v hv s F => by
  cases hv
  obtain ⟨us, ok, el⟩ := h1.at F
  exact wpAny_pyIter_tuple el (vi okR (F.push (P := ti a 0) (t := s.toks) ⟨rfl, rfl⟩ rfl) (h _))
theorem k_iterEn {e it : Addr} {i : Nat} {f0 : Value} (hf : f0 = .none) (h1 : Has e (enE it i f0) l) (h : KV (.ref e) l) : WV1 B l pyIter (.ref e) KV := fun v hv s F => by
  cases hv
  subst hf
  obtain ⟨_, ho, old, rfl⟩ := F.get h1
  exact wpAny_pyIter_enum ho (vi okR F h)
theorem n_tupB {it : Addr} {k : Nat} {Q : Option Pt → List Ent → Prop} (h1 : BT G a vs) (hv : vs[k]? = some p) (q : Q (some p) ((it, ti a (k + 1)) :: l)) : WN B ((it, ti a k) :: l) (pyNext (.ref it)) Q := fun s F => by
  obtain ⟨_, e, x⟩ := F.get .head
  obtain ⟨us, ok, el⟩ := h1.at F
  obtain ⟨v, e', hp⟩ := ok.get hv
  exact wpAny_pyNext_tuple_item ⟨_, e, x⟩ el (by simpa using e') fun h' ⟨o, ho, hx⟩ hs => ⟨_, F.upd (P' := ti a (k + 1)) (t := s.toks) .head (fun b o hb e => (hs.2 b hb).trans e) ⟨o, ho, hx⟩, .inr ⟨_, _, rfl, hp, q⟩⟩
theorem n_tupEndB {it : Addr} {Q : Option Pt → List Ent → Prop} (h1 : BT G a vs) (q : Q none l) : WN B ((it, ti a vs.length) :: l) (pyNext (.ref it)) Q := fun s F => by
  obtain ⟨_, e, x⟩ := F.get .head
  obtain ⟨us, ok, el⟩ := h1.at F
  exact wpAny_pyNext_tuple_end B.hA.hh ⟨_, e, x⟩ el (by simp [ok.len]) fun h' hs => ⟨_, F.gone (t := s.toks) .head (fun b o hb e => hs _ _ hb e), .inl ⟨rfl, q⟩⟩
theorem n_enum {e it : Addr} {k : Nat} {Q : Option Pt → List Ent → Prop} (h1 : BT G a vs) (hv : vs[k]? = some p) (q : ∀ T, Q (some (.ref T)) ((T, tup [.int k, p]) :: (e, enE it (k + 1) (rawInt T)) :: (it, ti a (k + 1)) :: l)) :
    WN B ((e, enE it k .none) :: (it, ti a k) :: l) (pyNext (.ref e)) Q := fun s F => by
  obtain ⟨_, he, old, rfl⟩ := F.get .head
  obtain ⟨_, hi, hit⟩ := F.get (.tail .head)
  obtain ⟨us, ok, el⟩ := h1.at F
  have hne : e ≠ it := fun q => by
    have := F.nd
    rw [q] at this
    simp at this
  have off : ∀ {b P}, Has b P ((e, enE it k .none) :: (it, ti a k) :: l) → a ≠ b := fun hb q => by
    obtain ⟨_, _, _, e0⟩ := h1
    have := F.off hb
    rw [← q, e0] at this; cases this
  have hae : a ≠ e := off .head
  have hai : a ≠ it := off (.tail .head)
  have hlt : k < us.length := by
    have := (List.getElem?_eq_some_iff.mp hv).1
    rw [ok.len]; exact this
  refine wpAny_pyNext_enum_itemD (draws_tuple (A := B.A.in1) B.hA.hh it a hai us.toArray) (i := k) he ⟨⟨_, hi, hit⟩, el⟩ (by simpa using hlt) hne (by simp [hne, Ne.symm hae]) fun x h' tk hx heo hst hT hz hkeep => ?_
  obtain ⟨v, e', hp⟩ := ok.get hv
  have hxv : x = v := by
    have hx' : us[k]? = some x := by simpa using hx
    rw [hx'] at e'; cases e'; rfl
  subst hxv
  have nw : s.heap.get? s.heap.objs.size = none := Heap.get?_none_of_le (Nat.le_refl _)
  obtain ⟨oi', hi', hit'⟩ := hst.1
  have F1 : St G { s with heap := h', toks := tk + 1 } ((s.heap.objs.size, tup [.int k, p]) :: (e, enE it (k + 1) (rawInt s.heap.objs.size)) :: (it, ti a (k + 1)) :: l) := by
    have hnl : ∀ b, b ∈ ((e, enE it k .none) :: (it, ti a k) :: l).map (·.1) → b ≠ s.heap.objs.size := fun b hb q => F.nonew nw (q ▸ hb)
    have hnd := F.nd
    simp only [List.map_cons, List.nodup_cons] at hnd
    refine F.next (fun b o e0 eb => hkeep b o (fun q => ?_) (fun q => ?_) eb) (fun p' hp' => ?_) (fun p' hp' => ?_) ?_
    · rw [q, F.off .head] at e0; cases e0
    · rw [q, F.off (.tail .head)] at e0; cases e0
    · rcases List.mem_cons.mp hp' with rfl | hp'
      · exact ⟨_, hT, [.int k _, x], _, .cons ⟨_, rfl⟩ (.cons hp .nil), rfl⟩
      rcases List.mem_cons.mp hp' with rfl | hp'
      · exact ⟨_, heo, x, by simp⟩
      rcases List.mem_cons.mp hp' with rfl | hp'
      · exact ⟨_, hi', hit'⟩
      · obtain ⟨o, ho, hP⟩ := F.led p' (.tail _ (.tail _ hp'))
        have hm : p'.1 ∈ l.map (·.1) := List.mem_map.mpr ⟨p', hp', rfl⟩
        exact ⟨o, hkeep _ _ (fun q => hnd.1 (List.mem_cons_of_mem _ (q ▸ hm))) (fun q => hnd.2.1 (q ▸ hm)) ho, hP⟩
    · rcases List.mem_cons.mp hp' with rfl | hp'
      · cases q : G.h₀.get? s.heap.objs.size with
        | none => rfl
        | some o => rw [F.base _ _ q] at nw; cases nw
      rcases List.mem_cons.mp hp' with rfl | hp'
      · exact F.off .head
      rcases List.mem_cons.mp hp' with rfl | hp'
      · exact F.off (.tail .head)
      · exact F.new _ (.tail _ (.tail _ hp'))
    · exact List.nodup_cons.mpr ⟨fun hm => hnl _ hm rfl, F.nd⟩
  exact ⟨_, F1, .inr ⟨_, _, rfl, okR, q _⟩⟩
theorem n_enumEnd {e it : Addr} {Q : Option Pt → List Ent → Prop} (h1 : BT G a vs) (q : Q none l) : WN B ((e, enE it vs.length .none) :: (it, ti a vs.length) :: l) (pyNext (.ref e)) Q := fun s F => by
  obtain ⟨_, he, old, rfl⟩ := F.get .head
  obtain ⟨_, hi, hit⟩ := F.get (.tail .head)
  obtain ⟨us, ok, el⟩ := h1.at F
  have hai : a ≠ it := fun q => by
    obtain ⟨_, _, _, e0⟩ := h1
    have := F.off (.tail .head)
    rw [← q, e0] at this; cases this
  refine wpAny_pyNext_enum_endD (draws_tuple (A := B.A.in1) B.hA.hh it a hai us.toArray) he ⟨⟨_, hi, by rw [List.size_toArray, ok.len]; exact hit⟩, el⟩ fun h' hs => ?_
  exact ⟨_, (F.gone (t := s.toks) (.tail .head) (fun b o hb e => hs _ _ hb e)).drop, .inl ⟨rfl, q⟩⟩
theorem k_asgPl {elts : List Expr} {x1} {it T : Addr} {P : Obj → Prop} {cls : String} {f0 : Value} (h1 : Has it P l) (hP : ∀ o, P o → o.cls = .type cls ∧ ∃ vs, o.data = .fields vs)
    (hc : (["enumerate", "zip", "dict_itemiterator", "dict_reverseitemiterator", "odict_iterator", "itertools.zip_longest", "itertools.pairwise"].contains cls) = false) (h : WU1 B l (assign (.Tuple elts x1 pos) env) (.ref T) KU) :
    WU1 B l (asgT (.Tuple elts x1 pos) env (.ref it)) (.ref T) KU := fun v hv s F => by
  cases hv
  obtain ⟨o, ho, hx⟩ := F.get h1
  obtain ⟨hcl, vs, hd⟩ := hP o hx
  show wpAny _ _ (letOwnedTupleGo (.Tuple elts x1 pos) (.ref it) (.ref T) >>= fun _ => assign (.Tuple elts x1 pos) env (.ref T)) _ _ s
  refine wpAny_bind ?_
  unfold letOwnedTupleGo
  refine wpAny_bind (wpAny_load ho ?_)
  rw [hcl, hd]
  show wpAny _ _ (if (["enumerate", "zip", "dict_itemiterator", "dict_reverseitemiterator", "odict_iterator", "itertools.zip_longest", "itertools.pairwise"].contains cls && _) = true then _ else _) _ _ s
  rw [hc, Bool.false_and, if_neg (by decide)]
  exact wpAny_pure (h _ okR s F)
theorem k_letEn {elts : List Expr} {x1} {e it T : Addr} {k : Nat} (h : KU ((e, enE it k .none) :: l)) :
    WU1 B ((e, enE it k (rawInt T)) :: l) (letOwnedTupleGo (.Tuple elts x1 pos) (.ref e)) (.ref T) KU := fun v hv s F => by
  cases hv
  obtain ⟨_, he, old, rfl⟩ := F.get .head
  exact wpAny_letOwnedTupleGo_enum he fun h' e' hs => ui (F.upd (t := s.toks) (P' := enE it k .none) .head (fun b o hb q => (hs.2 b hb).trans q) ⟨_, e', old, rfl⟩) h
theorem k_letPl {elts : List Expr} {x1} {it T : Addr} {P : Obj → Prop} {cls : String} (h1 : Has it P l) (hP : ∀ o, P o → o.cls = .type cls ∧ ∃ vs, o.data = .fields vs)
    (hc : (["enumerate", "zip", "dict_itemiterator", "dict_reverseitemiterator", "odict_iterator", "itertools.zip_longest", "itertools.pairwise"].contains cls) = false) (h : KU l) :
    WU1 B l (letOwnedTupleGo (.Tuple elts x1 pos) (.ref it)) (.ref T) KU := fun v hv s F => by
  cases hv
  obtain ⟨o, ho, hx⟩ := F.get h1
  obtain ⟨hcl, vs, hd⟩ := hP o hx
  unfold letOwnedTupleGo
  refine wpAny_bind (wpAny_load ho ?_)
  rw [hcl, hd]
  show wpAny _ _ (if (["enumerate", "zip", "dict_itemiterator", "dict_reverseitemiterator", "odict_iterator", "itertools.zip_longest", "itertools.pairwise"].contains cls && _) = true then _ else _) _ _ s
  rw [hc, Bool.false_and, if_neg (by decide)]
  exact wpAny_pure (ui F h)
theorem k_letN {y : Str} {it : Value} (h : KU l) : WU1 B l (letOwnedTupleGo (.Name y ps) it) p KU := fun v hv s F => wpAny_pure (ui F h)
theorem ti_rec {i : Nat} : ∀ o, ti a i o → o.cls = .type "tuple_iterator" ∧ ∃ vs, o.data = .fields vs := fun _ h => ⟨h.1, _, h.2⟩
theorem li_rec {i : Nat} : ∀ o, li a i o → o.cls = .type "list_iterator" ∧ ∃ vs, o.data = .fields vs := fun _ h => ⟨h.1, _, h.2⟩
end
section
variable {G : Gr} {w : World} {n m : Nat} {B : Bx G w n} {l l' : List Ent} {env : Env} {pos ap : Pos} {p q : Pt} {KV : Pt → List Ent → Prop} {a : Addr}
noncomputable abbrev qSt2 (B : Bx G w n) (id : String) (y : Word) (KV : Pt → List Ent → Prop) : Pt → List Ent → Prop := fun q l => WC B l (.builtin id) [.str y, q] KV
noncomputable abbrev qSt1 (B : Bx G w n) (id : String) (e : Expr) (env : Env) (KV : Pt → List Ent → Prop) : Pt → List Ent → Prop := fun p l => ∃ y, p = .str y ∧ WV B l (eval e env) (qSt2 B id y KV)
theorem k_sm1 {pl : Sem Bool} {o e : Expr} {name : Str} {id : String} (slot : Slot "str" name id) (ty : typeOf (.builtin id) = pure (.type "method_descriptor"))
    (h : WV B l (eval o env) (qSt1 B id e env KV)) (hs : starEach [e] env = [(false, eval e env)] := by rfl)
    (he : eval (.Call (.Attribute o name ap) [e] [] pos) env = (do
      let ov ← eval o env
      standAt ap.atName
      let (f, first) ← holding [ov] (getMethod ov name pl)
      callWith pos f first (backTo pos (starEach [e] env)) []) := by rfl) :
    WV B l (eval (.Call (.Attribute o name ap) [e] [] pos) env) KV := fun s F =>
  MethodCall_ (h.use F fun ov p l s hp h F => by
    obtain ⟨y, rfl, h⟩ := h
    obtain ⟨t, rfl⟩ := hp
    exact GM.of (.str _ t) (typeIs_str _ _ _) slot ty GM.noRef (callWith_method1 (wpAny_items_cons (h.use F fun v p l s₂ hp h F => wpAny_items_nil (h _ (.cons ⟨t, rfl⟩ (.cons hp .nil)) s₂ F)) hs) hs (by rfl))) he
theorem count_w (y : Word) (c : Nat) : Txt.count (S y) (S [c]) = (y.count c : Nat) := by
  rw [count_is]
  show PyProof.Rows.cnt c y = _
  induction y with
  | nil => exact PyProof.Rows.cnt_nil c
  | cons n r ih =>
    rw [PyProof.Rows.cnt_cons, ih, List.count_cons]
    by_cases h : n = c
    · subst h
      simp
      omega
    · have : (n == c) = false := by simpa using h
      simp [h]
theorem c_count {y : Word} {c : Nat} (h : KV (.int (y.count c : Nat)) l) : WC B l (.builtin "str.count") [.str y, .str [c]] KV := on2 fun v u s hv hu F => by
  obtain ⟨t, rfl⟩ := hv
  obtain ⟨t', rfl⟩ := hu
  exact SC.count (vi (p := .int (y.count c : Nat)) ⟨s.toks, by rw [count_w]⟩ (F.tok _) h)
end
theorem slot_fn_ga : Slot "function" "__getattribute__" "object.__getattribute__" :=
  .of (owner := "object") (n := "__getattribute__") (by rw [typeLookup_type, builtinLookup_eq_fast]; kernel_rfl) (by decide +kernel) (by decide +kernel) (by decide +kernel)
    (by first | exact .inl (by decide +kernel) | exact .inr (by decide +kernel)) (by rw [isSubtype_type]; kernel_rfl)
theorem slot_fn_sa : Slot "function" "__setattr__" "object.__setattr__" :=
  .of (owner := "object") (n := "__setattr__") (by rw [typeLookup_type, builtinLookup_eq_fast]; kernel_rfl) (by decide +kernel) (by decide +kernel) (by decide +kernel)
    (by first | exact .inl (by decide +kernel) | exact .inr (by decide +kernel)) (by rw [isSubtype_type]; kernel_rfl)
theorem fn_read : typeLookup (.type "function") "read" = pure none := by rw [typeLookup_type, builtinLookup_eq_fast]; kernel_rfl
theorem fn_getattr_none : typeLookup (.type "function") "__getattr__" = pure none := by rw [typeLookup_type, builtinLookup_eq_fast]; kernel_rfl
theorem fn_mro : mroOf (.type "function") = pure [.type "function", .type "object"] := by rw [mroOf_type]; kernel_rfl
theorem entry_obj_sa : entryFor table "object.__setattr__" = some Builtin.«object.__setattr__» := entryFor_of_fast (by kernel_rfl)
theorem args_obj_sa (a b c : Value) : argsOk "object.__setattr__" ⟨[a, b, c], []⟩ := by unfold argsOk; kernel_rfl
section
variable {prog : Program} {w : World} {A : Around} {s : Shared} {E : Value → Shared → Prop}
theorem run_ga_fn {f d : Addr} {fd : FuncData} {u : Tok} {m : Str → Option Value} {v : Value} {Q : Fin → Shared → Prop} (ho : s.heap.get? f = some { cls := .type "function", dict := some d, data := .func fd, slots := #[] }) (hd : s.heap.Ns d m) (hv : m "read" = some v)
    (h : Q (.done (.ret v)) s) : wpAny (model prog w) A (Builtin.«object.__getattribute__» ⟨[.ref f, .str "read" u], []⟩) Q E s := by
  have hT : s.TypeIs (.ref f) "function" := ⟨_, ho, rfl⟩
  have f1 := fn_read
  unfold Builtin.«object.__getattribute__»
  repeat (any_goals (first | assumption | (with_reducible refine wpAny_nsGet hd ?_; rw [hv]) | wp_step))
theorem getAttr_fn {f d g : Addr} {fd : FuncData} {m : Str → Option Value} {expr : Bool} {Q : Value → Shared → Prop} (ho : s.heap.get? f = some { cls := .type "function", dict := some d, data := .func fd, slots := #[] }) (hd : s.heap.Ns d m) (hv : m "read" = some (.ref g))
    (h : Q (.ref g) { s with toks := s.toks + 1 }) : wpAny (model prog w) A (getAttr (.ref f) "read" expr) Q E s := by
  obtain ⟨hp, gg, dr, tk, os⟩ := s
  have hT : ∀ tk', (⟨hp, gg, dr, tk', os⟩ : Shared).TypeIs (.ref f) "function" := fun _ => ⟨_, ho, rfl⟩
  have f3 := slot_fn_ga.lookup
  have f4 := slot_fn_ga.bind (.ref f)
  have f5 := fn_getattr_none
  cases expr
  all_goals
    unfold getAttr getAttrBy
    repeat (any_goals (first | assumption | exact hT _ | ((with_reducible show wpAny _ _ (call (Value.builtin "object.__getattribute__") _ _) _ _ _); refine wpAny_call_entry slot_fn_ga (hT _) entry_obj_ga (run_ga_fn (s := ⟨hp, gg, dr, tk + 1, os⟩) ho hd hv ⟨_, rfl, ?_⟩) (args_obj_ga _ _)) | wp_step))
theorem getMethod_fn {f d g : Addr} {fd : FuncData} {m : Str → Option Value} {pl : Sem Bool} {Q : Value × List Value → Shared → Prop} (ho : s.heap.get? f = some { cls := .type "function", dict := some d, data := .func fd, slots := #[] }) (hd : s.heap.Ns d m) (hv : m "read" = some (.ref g))
    (h : Q (.ref g, []) { s with toks := s.toks + 1 }) : wpAny (model prog w) A (getMethod (.ref f) "read" pl) Q E s := by
  have hT : s.TypeIs (.ref f) "function" := ⟨_, ho, rfl⟩
  unfold getMethod
  refine wpAny_bind (wpAny_specialOf hT slot_fn_ga.lookup ?_)
  show wpAny _ _ (if (Manifest.canonical "object.__getattribute__" != "object.__getattribute__") = true then _ else _) Q E s
  rw [if_neg (by decide +kernel)]
  refine wpAny_bind (wpAny_specialOf hT fn_getattr_none ?_)
  refine wpAny_bind (wpAny_specialOf hT fn_read ?_)
  exact wpAny_bind (getAttr_fn ho hd hv (wpAny_pure h))
theorem run_sa_fn {f : Addr} {fd : FuncData} {u : Tok} {v : Value} {Q : Fin → Shared → Prop} (ho : s.heap.get? f = some { cls := .type "function", dict := none, data := .func fd, slots := #[] })
    (h : ∀ h' d, (∀ b o, b ≠ f → s.heap.get? b = some o → h'.get? b = some o) → s.heap.get? d = none → h'.get? f = some { cls := .type "function", dict := some d, data := .func fd, slots := #[] } → h'.Ns d (fun x => if x = "read" then some v else none) → Q (.done (.ret .none)) { s with heap := h', toks := s.toks + 1 }) :
    wpAny (model prog w) A (Builtin.«object.__setattr__» ⟨[.ref f, .str "read" u, v], []⟩) Q E s := by
  have hT : s.TypeIs (.ref f) "function" := ⟨_, ho, rfl⟩
  have f1 := fn_read
  have f2 := fn_mro
  have hxs : f ≠ s.heap.objs.size := Nat.ne_of_lt (Heap.lt_size ho)
  have hx1 : (s.heap.push { cls := .type "dict", data := .dict #[] }).get? f = some { cls := .type "function", dict := none, data := .func fd, slots := #[] } := Heap.get?_push_of_some _ ho
  have hgd : ((s.heap.push { cls := .type "dict", data := .dict #[] }).update f fun o => { cls := o.cls, dict := some s.heap.objs.size, data := o.data, slots := o.slots }).get? s.heap.objs.size = some { cls := .type "dict", data := .dict #[] } :=
    (Heap.get?_update_other _ _ hxs).trans (Heap.get?_push_size _ rfl)
  have hnd : ((s.heap.push { cls := .type "dict", data := .dict #[] }).update f fun o => { cls := o.cls, dict := some s.heap.objs.size, data := o.data, slots := o.slots }).Ns s.heap.objs.size (fun _ => none) :=
    ⟨_, #[], _, hgd, rfl, fun e he => absurd he (by simp), fun _ => rfl⟩
  unfold Builtin.«object.__setattr__»
  repeat (any_goals (first | assumption | (with_reducible refine wpAny_nsSet1 (Heap.Ns1.of_empty hnd) fun h' hn' hs => ?_) | wp_step))
  obtain ⟨oD, esD, epD, hoD, hdD, hcD⟩ := hn'.count (Within.cons "read" v Within.nil)
  refine wpAny_loadPart hoD ?_
  rw [hdD, pastItsLine_dict (Nat.le_trans hcD (by rw [List.length_cons, List.length_nil, sizeLine_eq]; omega))]
  refine wpAny_pure (wpAny_pure ?_)
  refine h h' s.heap.objs.size (fun b o hb e => (hs.2 b (Nat.ne_of_lt (Heap.lt_size e))).trans ((Heap.get?_update_other _ _ (Ne.symm hb)).trans (Heap.get?_push_of_some _ e))) (Heap.get?_none_of_le (Nat.le_refl _)) ((hs.2 f hxs).trans (Heap.get?_update_self _ hx1 rfl)) ?_
  obtain ⟨o', es, ep, e1, e2, e3, eu, e4⟩ := hn'
  exact ⟨o', es, ep, e1, e2, e3, fun y => by rw [e4 y]⟩
end
noncomputable def tabQ (ps : Array Value) : Obj → Prop := fun o => o = tabObj ps
noncomputable def fnO (fd : FuncData) : Obj → Prop := fun o => o = { cls := .type "function", dict := none, data := .func fd, slots := #[] }
noncomputable def fnD (fd : FuncData) (d : Addr) : Obj → Prop := fun o => o = { cls := .type "function", dict := some d, data := .func fd, slots := #[] }
noncomputable def coP (qual : Str) : Obj → Prop := fun o => ∃ vs t, o.data = .fields vs ∧ vs[1]? = some (.str qual t)
noncomputable def BM (G : Gr) : Prop := ∃ mg bm ob, G.h₀.Ns mainGlobals mg ∧ mg "__builtins__" = some (.ref bm) ∧ bm ≠ builtinsNs ∧ G.h₀.get? bm = some ob ∧ ob.cls = .type "module" ∧ ob.dict = some builtinsNs ∧ ob.data = .plain
section
variable {G : Gr} {w : World} {n m : Nat} {B : Bx G w n} {l l' : List Ent} {L : Addr} {loc loc' : Loc} {env : Env} {x y : Str} {pos ap ps pn : Pos} {sc scope : Scope} {cs cl : List (Str × Addr)} {p q : Pt}
  {KV : Pt → List Ent → Prop} {KU : List Ent → Prop} {KF : Fl → List Ent → Prop} {a b c P : Addr} {vs us : List Pt} {r : List Stmt} {s : Shared} {tab : Array Value} {params : Arguments} {name : Str}
theorem BM.at (h : BM G) (F : St G s l) (hP : G.h₀.get? P = none) : ∃ mg, s.heap.Ns mainGlobals mg ∧ mainGlobals ≠ P ∧ s.heap.BuiltinsAt mg P := by
  obtain ⟨mg, bm, ob, hg, b1, b2, b3, b4, b5, b6⟩ := h
  refine ⟨mg, hg.keeps F.base, fun q => ?_, bm, ob, b1, b2, fun q => ?_, fun q => ?_, F.base _ _ b3, b4, b5, b6⟩
  · obtain ⟨o, es, ep, e, _⟩ := hg
    rw [q, hP] at e; cases e
  · obtain ⟨o, es, ep, e, hd, _⟩ := hg
    rw [q, e] at b3; cases b3; rw [hd] at b6; cases b6
  · rw [q, hP] at b3; cases b3
theorem St.made {h' : Heap} {c' : Addr} {qual : Str} {fd : FuncData} {tk : Tok} {tab' : Array Value} (F : St G s l) (i : Nat) (hE : gE l i = some (P, tabQ tab)) (hx : Heap.ExtBut P s.heap h') (hge : s.heap.objs.size ≤ c') (hlt : c' < h'.objs.size) (hrec : h'.CodeRec (.ref c') qual) (htb : h'.get? P = some (tabObj tab')) :
    St G { s with heap := h'.push { cls := .type "function", dict := none, data := .func fd, slots := #[] }, toks := tk } ((h'.objs.size, fnO fd) :: (c', coP qual) :: sE l i (P, tabQ tab')) := by
  have F1 : St G { s with heap := h', toks := tk } (sE l i (P, tabQ tab')) := F.upd (t := tk) (P' := tabQ tab') (Rep.of hE) (fun b o hb e => hx b o hb e) ⟨_, htb, rfl⟩
  obtain ⟨c2, oc, vs, t, e2, hoc, hd, hv⟩ := hrec
  cases e2
  have hn : s.heap.get? c' = none := Heap.get?_none_of_le hge
  have hk : c' ∉ (sE l i (P, tabQ tab')).map (·.1) := by
    rw [(Rep.of (P' := tabQ tab') hE).keys]
    exact F.nonew hn
  have h0 : G.h₀.get? c' = none := by
    cases q : G.h₀.get? c' with
    | none => rfl
    | some o => rw [F.base _ _ q] at hn; cases hn
  exact (F1.add (P := coP qual) hk h0 hoc ⟨vs, t, hd, hv⟩).push (P := fnO fd) (t := tk) rfl rfl
theorem k_Lambda {body : Expr} (i : Nat) (hBM : BM G) (en : En env L sc cs) (hcode : env.code = .ref c) (C : codeHdIn (K w.params) c P = true) (hE : gE l i = some (P, tabQ tab)) (ht : TriplesOk tab.toList) (hnf : codeAmong pos tab.toList = none) (hcl : cloOf cs scope.names [] = some cl)
    (h : ∀ f c' pm ctv, KV (.ref f) ((f, fnO (kla_fn "<lambda>" (env.qual ++ "<lambda>") params body scope cl pm (.ref c') ctv)) :: (c', coP (env.qual ++ "<lambda>")) :: sE l i (P, tabQ (tab ++ #[rawInt pos.line, rawInt pos.col, .ref c']))))
    (hdef : defaultsOf params env = ([], []) := by rfl) : WV B l (eval (.Lambda params body scope pos) env) KV := fun s F => by
  obtain ⟨oP, hP, rfl⟩ := F.get (Has.of hE)
  obtain ⟨mg, g1, g2, g3⟩ := hBM.at F (F.off (Has.of hE))
  exact kla_eval hdef (kla_makeFunction (closureFor_of en.c hcl) en.g g1 hcode ((codeHd_of_K B.bs.X C).keeps F.base) hP ht hnf g2 g3 fun c' ctv h' tk hx hge hlt hrec htb => vi okR (F.made i hE hx hge hlt hrec htb) (h _ _ _ _))
theorem k_Def {body : List Stmt} (i : Nat) (hBM : BM G) (en : En env L sc cs) (hcode : env.code = .ref c) (C : codeHdIn (K w.params) c P = true) (hE : gE l i = some (P, tabQ tab)) (ht : TriplesOk tab.toList) (hnf : codeAmong pos tab.toList = none) (hcl : cloOf cs scope.names [] = some cl)
    (hd0 : params.defaults = []) (hk0 : params.kw_defaults = []) (ha : annTrees params none env = [])
    (h : ∀ f c' doc pm ctv, WU1 B ((f, fnO (fnX name (qualnameIn env name name) params body scope cl .none .none doc pm none (.ref c') ctv)) :: (c', coP (qualnameIn env name name)) :: sE l i (P, tabQ (tab ++ #[rawInt pos.line, rawInt pos.col, .ref c']))) (storeName env name) (.ref f) (qRest B env r KF)) :
    WF B l (execs (.FunctionDef name params body [] none [] scope none name pos :: r) env) KF := .cons fun s F => by
  obtain ⟨oP, hP, rfl⟩ := F.get (Has.of hE)
  obtain ⟨mg, g1, g2, g3⟩ := hBM.at F (F.off (Has.of hE))
  refine nestDef_K hd0 hk0 ha (makeFunction_K (closureFor_of en.c hcl) en.g g1 hcode ((codeHd_of_K B.bs.X C).keeps F.base) hP ht hnf g2 g3 fun c' ctv doc h' tk hx hge hlt hrec htb => ?_)
  exact (h _ c' doc _ ctv _ okR).use (F.made i hE hx hge hlt hrec htb) fun l s h F => ni F h
theorem k_enterG {f c' : Addr} {fd : FuncData} {vs : List Pt} {names : List Str} {loc : Loc} {body : List Stmt} {B : Bx G w (n + 1)} (h1 : Has f (fnO fd) l) (h2 : Has c' (coP fd.qualname) l) (hco : fd.code = .ref c')
    (hbody : fd.body = .stmts body) (hg : fd.globals = mainGlobals) (hb : fd.builtins = builtinsNs)
    (hok : ((fd.scope.names.all fun x => x.2 != .cell) && (names.all fun x => fd.scope.names.lookup x == some .local) && (!fd.scope.isCoroutine) && (!fd.scope.isGenerator) && (fd.scope.kind == .function)) = true)
    (hbind : ∀ us, Oks vs us → ∃ b, bindArgs fd ⟨us, []⟩ = pure b.reverse ∧ b.map (·.1) = names ∧ Binds b loc)
    (h : ∀ L env (B' : Bx G w n) (KF : Fl → List Ent → Prop), En env L fd.scope fd.closure → (∀ p l l', Im l l' → KV p l' → KF (.ret p) l) → (∀ l l', Im l l' → KV .none l' → KF .next l) → WF B' ((L, nsP loc) :: l) (execs body env) KF) :
    WC B l (.ref f) vs KV := WK.wc fun us hus s F => by
  simp only [Bool.and_eq_true, Bool.not_eq_true', beq_iff_eq] at hok
  obtain ⟨⟨⟨⟨hcell, hloc⟩, q1⟩, q2⟩, q3⟩ := hok
  obtain ⟨of, ef, rfl⟩ := F.get h1
  obtain ⟨oc, ec, vsc, t, hd, hv⟩ := F.get h2
  obtain ⟨binds, hbi, hna, hbs⟩ := hbind us hus
  refine codeAny_call_function B.hA.room ef rfl q1 q2 hbody ⟨c', oc, vsc, t, hco, ec, hd, hv⟩ (hbi ▸ wpAny_pure ?_)
  refine wpAny_newFunctionEnv ?_ ?_ (fun h₀ hns hsb => ?_) q3
  · intro y hy e
    have := List.all_eq_true.mp hcell y hy
    rw [e] at this; exact absurd this (by decide)
  · intro y hy
    have := List.all_eq_true.mp hloc y.1 (by rw [← hna]; exact List.mem_map.mpr ⟨y, List.mem_reverse.mp hy, rfl⟩)
    simpa using this
  · have hk : ∀ b o, s.heap.get? b = some o → h₀.get? b = some o := fun b o e => hsb.extBut b o (Nat.ne_of_lt (Heap.lt_size e)) (Heap.get?_push_of_some _ e)
    have nw : s.heap.get? s.heap.objs.size = none := Heap.get?_none_of_le (Nat.le_refl _)
    refine ⟨(B.bs.lim.keeps F.base).keeps hk, codeAny_func (wpAny_mono (h _ _ ⟨B.A.deeper _, B.bs, B.hA.deeper _⟩ (fun f l => ∃ l', Im l l' ∧ match f with | .ret p => KV p l' | _ => KV .none l') ?_ (fun p l l' h1 h2 => ⟨l', h1, h2⟩) (fun l l' h1 h2 => ⟨l', h1, h2⟩) _ (F.cons nw hk (nsP_of hns fun y => by rw [List.reverse_reverse]; exact hbs.kn y))) (fun fl s' ⟨f, l, hf, F, l', hl', z⟩ => ?_) fun _ _ z => z.elim)⟩
    · exact ⟨rfl, rfl, rfl, hg, hb⟩
    · cases f with
      | next => cases hf; exact ⟨_, _, okNo, F.im hl', z⟩
      | brk => cases hf; exact ⟨_, _, okNo, F.im hl', z⟩
      | cont => cases hf; exact ⟨_, _, okNo, F.im hl', z⟩
      | ret p => obtain ⟨v, rfl, hp⟩ := hf; exact ⟨_, _, hp, F.im hl', z⟩
theorem k_setRd {f g : Addr} {fd : FuncData} (i : Nat) (hE : gE l i = some (f, fnO fd)) (h : ∀ d, KU ((d, nsP [bd "read" (.ref g)]) :: sE l i (f, fnD fd d))) : WU2 B l (fun ov v => setAttr ov "read" v) (.ref f) (.ref g) KU := fun v u hv hu s F => by
  cases hv
  cases hu
  obtain ⟨of, ef, rfl⟩ := F.get (Has.of hE)
  have hT : ∀ tk, Shared.TypeIs { s with toks := tk } (.ref f) "function" := fun _ => ⟨_, ef, rfl⟩
  unfold setAttr
  refine wpAny_bind (wpAny_mkText ?_)
  refine wpAny_bind (wpAny_callSpecial?_slot (name := Str.ofString "__setattr__") (hT _) slot_fn_sa (wpAny_call_entry slot_fn_sa (hT _) entry_obj_sa (run_sa_fn (s := { s with toks := s.toks + 1 }) ef fun h' d hk hd hf' hn => ⟨_, rfl, ?_⟩) (args_obj_sa _ _ _)))
  have hk0 : d ∉ (sE l i (f, fnD fd d)).map (·.1) := by
    rw [(Rep.of (P' := fnD fd d) hE).keys]
    exact F.nonew hd
  have h0 : G.h₀.get? d = none := by
    cases q : G.h₀.get? d with
    | none => rfl
    | some o => rw [F.base _ _ q] at hd; cases hd
  have F1 : St G { s with heap := h', toks := s.toks + 1 + 1 } (sE l i (f, fnD fd d)) := F.upd (P' := fnD fd d) (Rep.of hE) (fun b o hb e => hk b o hb e) ⟨_, hf', rfl⟩
  obtain ⟨od, ed, xd⟩ := nsP_of (loc := [bd "read" (.ref g)]) hn fun y => by
    by_cases q : y = "read"
    · subst q
      simp only [if_true]
      exact ⟨_, rfl, rfl⟩
    · have : (y == ("read" : Str)) = false := by simpa using q
      simp only [List.lookup_cons, this, q, if_false]
      rfl
  exact wpAny_pure (ui (F1.add hk0 h0 ed xd) (h d))
theorem k_callRd {pl : Sem Bool} {o e : Expr} (h : WV B l (eval o env) (fun q l => ∃ f d g fd fg, q = .ref f ∧ Has f (fnD fd d) l ∧ Has d (nsP [bd "read" (.ref g)]) l ∧ Has g (fnO fg) l ∧ WV B l (eval e env) (fun p l => Has g (fnO fg) l ∧ WC B l (.ref g) [p] KV)))
    (hs : starEach [e] env = (false, eval e env) :: starEach [] env := by rfl)
    (he : eval (.Call (.Attribute o "read" ap) [e] [] pos) env = (do
      let ov ← eval o env
      standAt ap.atName
      let (f, first) ← holding [ov] (getMethod ov "read" pl)
      callWith pos f first (backTo pos (starEach [e] env)) []) := by rfl) : WV B l (eval (.Call (.Attribute o "read" ap) [e] [] pos) env) KV := fun s F =>
  MethodCall_ (h.use F fun ov p l s hp h F => by
    obtain ⟨f, d, g, fd, fg, rfl, h1, h2, h3, h⟩ := h
    cases hp
    obtain ⟨of, ef, rfl⟩ := F.get h1
    obtain ⟨mm, hm, kn⟩ := F.ns h2
    obtain ⟨v, ev, hv⟩ := kn "read"
    cases hv
    refine getMethod_fn ef hm ev ?_
    show wpAny _ _ (callWith pos (.ref g) [] (backTo pos (starEach [e] env)) []) _ _ _
    refine callWith_function (o := { cls := .type "function", dict := none, data := .func fg, slots := #[] }) (fd := fg) (k_args (wpAny_items_cons (h.use (F.tok (s.toks + 1)) fun v p l s hp h F => ?_) hs) hs)
    obtain ⟨h4, h⟩ := h
    obtain ⟨og, eg, rfl⟩ := F.get h4
    exact wpAny_items_nil ⟨⟨eg, rfl⟩, h _ (.cons hp .nil) s F⟩) he
end
section
variable {G : Gr} {w : World} {n m : Nat} {B : Bx G w n} {l l' : List Ent} {L : Addr} {loc loc' : Loc} {env : Env} {x : Str} {p q : Pt}
  {KV : Pt → List Ent → Prop} {KU : List Ent → Prop} {KF : Fl → List Ent → Prop} {ps : List Pt}
theorem k_enterCQ {f : Addr} {fd : FuncData} {ps : List Pt} {names : List Str} {body : List Stmt} {B : Bx G w (n + 1)} (ho : (K w.params).lookup f = some { cls := .type "function", data := .func fd })
    (hcd : codeIn (K w.params) fd.code fd.qualname = true) (hbody : fd.body = .stmts body) (hg : fd.globals = mainGlobals) (hb : fd.builtins = builtinsNs) (hcl : fd.closure = [])
    (hok : ((!fd.scope.isCoroutine) && (!fd.scope.isGenerator)) = true)
    (hbind : ∀ vs, Oks ps vs → ∃ b, bindArgs fd ⟨vs, []⟩ = pure b ∧ b.map (·.1) = names ∧ b.map (·.2) = vs)
    (h : ∀ L cs env (B' : Bx G w n) (B1 : Bx G w n) (KF : Fl → List Ent → Prop), B'.A.frames = B.A.frames.map (env :: ·) → env.frame = some L → env.code = fd.code → En env L fd.scope cs → cs.map (·.1) = cellNames fd.scope.names → (∀ p l l', Im l l' → KV p l' → KF (.ret p) l) → (∀ l l', Im l l' → KV .none l' → KF .next l) →
      WBs B1 env names ps (fun l' => WF B' l' (execs body env) KF) (cellsE cs ++ (L, nsP []) :: l)) :
    WC B l (.ref f) ps KV := WK.wc fun vs hvs s F => by
  simp only [Bool.and_eq_true, Bool.not_eq_true'] at hok
  obtain ⟨h1, h2⟩ := hok
  have ho' := F.base _ _ (B.bs.X _ _ ho)
  obtain ⟨b, hbi, hna, hbs⟩ := hbind vs hvs
  refine codeAny_call_function B.hA.room ho' rfl h1 h2 hbody ((codeRec_of B.bs.X hcd).keeps F.base) (hbi ▸ wpAny_pure ?_)
  rw [hcl]
  refine wp_newEnv (K := fun env l' => WF (⟨B.A.deeper env, B.bs, B.hA.deeper env⟩ : Bx G w n) l' (execs body env) (fun f l => ∃ l', Im l l' ∧ match f with | .ret p => KV p l' | _ => KV .none l')) B.hA.in1 B.bs F (hbs ▸ hvs) (fun L cs env he hcs => ?_) fun L cs env he l' s' z F' => ⟨B.bs.lim.keeps F'.base, codeAny_func (wpAny_mono (z s' F') (fun fl s' ⟨f, l, hf, F, l', hl', z⟩ => ?_) fun _ _ z => z.elim)⟩
  · subst he
    rw [hna]
    exact h L cs _ ⟨B.A.deeper _, B.bs, B.hA.deeper _⟩ ⟨_, B.bs, B.hA.in1⟩ _ rfl rfl rfl ⟨rfl, rfl, rfl, hg, hb⟩ hcs (fun p l l' h1 h2 => ⟨l', h1, h2⟩) (fun l l' h1 h2 => ⟨l', h1, h2⟩)
  · cases f with
    | next => cases hf; exact ⟨_, _, okNo, F.im hl', z⟩
    | brk => cases hf; exact ⟨_, _, okNo, F.im hl', z⟩
    | cont => cases hf; exact ⟨_, _, okNo, F.im hl', z⟩
    | ret p => obtain ⟨v, rfl, hp⟩ := hf; exact ⟨_, _, hp, F.im hl', z⟩
end
theorem slot_ci_next : Slot "callable_iterator" "__next__" "callable_iterator.__next__" :=
  .of (owner := "callable_iterator") (n := "__next__") (by rw [typeLookup_type, builtinLookup_eq_fast]; kernel_rfl) (by decide +kernel) (by decide +kernel) (by decide +kernel)
    (by first | exact .inl (by decide +kernel) | exact .inr (by decide +kernel)) (by rw [isSubtype_type]; kernel_rfl)
theorem slot_ci_iter : Slot "callable_iterator" "__iter__" "callable_iterator.__iter__" :=
  .of (owner := "callable_iterator") (n := "__iter__") (by rw [typeLookup_type, builtinLookup_eq_fast]; kernel_rfl) (by decide +kernel) (by decide +kernel) (by decide +kernel)
    (by first | exact .inl (by decide +kernel) | exact .inr (by decide +kernel)) (by rw [isSubtype_type]; kernel_rfl)
theorem entry_ci_next : entryFor table "callable_iterator.__next__" = some Builtin.«callable_iterator.__next__» := entryFor_of_fast (by kernel_rfl)
theorem entry_ci_iter : entryFor table "callable_iterator.__iter__" = some Builtin.«dict_keyiterator.__iter__» :=
  entryFor_alias (id' := "dict_keyiterator.__iter__") (by kernel_rfl) (by first | rfl | decide +kernel | (unfold String.splitOn; simp +decide [String.splitOnAux])) (by decide +kernel) (by kernel_rfl)
theorem args_ci_next (a : Value) : argsOk "callable_iterator.__next__" ⟨[a], []⟩ := by unfold argsOk; kernel_rfl
theorem args_ci_iter (a : Value) : argsOk "callable_iterator.__iter__" ⟨[a], []⟩ := by unfold argsOk; kernel_rfl
theorem args_iter2 (a b : Value) : argsOk "iter" ⟨[a, b], []⟩ := by unfold argsOk; kernel_rfl
theorem meth_call : typeLookup (.type "method") "__call__" = pure (some (.builtin "method.__call__")) := by rw [typeLookup_type, builtinLookup_eq_fast]; kernel_rfl
theorem borrowed_call {M : Model} {A : Around} {E : Value → Shared → Prop} {s : Shared} {f : Value} {pos : List Value} {Q : Value → Shared → Prop}
    (hc : codeAny M A (.call f ⟨pos, []⟩) (fun r s' => match r with | .ok (.ret v) => Q v s' | .ok _ => False | .error e => E e s') s) : wpAny M A (callBorrowed f pos) Q E s := fun Γ p hΓ => by
  have h := hc _ p rfl (hΓ.enter (.call f ⟨pos, []⟩) none p (by intro x; cases x))
  have e : Sem.wp M Γ (callBorrowed f pos) (fun a _ s' => Q a s') (fun e _ s' => E e s') p s = wpCode M (Γ.enter (.call f ⟨pos, []⟩) none p) (fun r s' => match r with | .ok (.ret v) => Q v s' | .ok _ => False | .error e => E e s') p s := by
    unfold callBorrowed
    rw [Sem.wp_call]
    congr 1
    funext r s'
    cases r with
    | error e => rfl
    | ok f => cases f <;> rfl
  rw [e]
  exact h
noncomputable def ciP (mo : Addr) : Obj → Prop := fun o => ∃ t, o = { cls := .type "callable_iterator", dict := none, data := .fields #[.ref mo, .str (S []) t, .bool false], slots := #[] }
section
variable {G : Gr} {w : World} {n m : Nat} {l l' : List Ent} {KV : Pt → List Ent → Prop} {KN : Option Pt → List Ent → Prop}
noncomputable def Bx.in1 (B : Bx G w (n + 1)) : Bx G w n := ⟨B.A.in1, B.bs, B.hA.in1⟩
theorem c_iterC {B : Bx G w n} {mo f x : Addr} (h1 : Has mo (bmP f x) l) (h : ∀ it, KV (.ref it) ((it, ciP mo) :: l)) : WC B l (.builtin "iter") [.ref mo, .str []] KV := on2 fun v u s hv hu F => by
  cases hv
  obtain ⟨t, rfl⟩ := hu
  obtain ⟨om, em, rfl⟩ := F.get h1
  have hT : s.TypeIs (.ref mo) "method" := ⟨_, em, rfl⟩
  refine call_function_entry (by decide +kernel) (by decide +kernel) entry_iter' (args_iter2 _ _) ?_
  unfold Builtin.«iter»
  refine wpAny_bind (m := someArgs "iter" 1 2 _) (wpAny_of_eq (a := [Value.ref mo, .str (S []) t]) (by first | rfl | kernel_rfl) ?_)
  show wpAny _ _ (specialOf (.ref mo) "__call__" >>= _) _ _ _
  refine wpAny_bind (wpAny_specialOf hT meth_call ?_)
  refine wpAny_bind (wpAny_rule ?_)
  show wpAny _ _ (newFields "callable_iterator" [.ref mo, .str (S []) t, .bool false] >>= _) _ _ _
  unfold newFields
  refine wpAny_bind (wpAny_newObj_type (wpAny_pure ⟨_, rfl, vi okR (F.push (P := ciP mo) (t := s.toks) ⟨t, rfl⟩ rfl) (h _)⟩) (by size_fits))
theorem k_iterC {B : Bx G w n} {fi mo : Addr} (h1 : Has fi (ciP mo) l) (h : KV (.ref fi) l) : WV1 B l pyIter (.ref fi) KV := fun v hv s F => by
  cases hv
  obtain ⟨o, e, t, rfl⟩ := F.get h1
  have hT : s.TypeIs (.ref fi) "callable_iterator" := ⟨_, e, rfl⟩
  refine wpAny_pyIter_slot hT slot_ci_iter (wpAny_call_entry slot_ci_iter hT entry_ci_iter ?_ (args_ci_iter _))
  show wpAny _ _ (ret (.ref fi)) _ _ s
  exact wpAny_pure ⟨_, rfl, "callable_iterator", _, hT, slot_ci_next.lookup, vi okR F h⟩
theorem n_callIt {B : Bx G w (n + 1)} {fi mo f x : Addr} {fd : FuncData} (h1 : Has mo (bmP f x) l) (hf : (K w.params).lookup f = some { cls := .type "function", data := .func fd })
    (hc : WK B.in1 ((fi, ciP mo) :: l) (.ref f) [.ref x] (fun p l1 => ∃ y l2, p = .str y ∧ Im l1 ((fi, ciP mo) :: l2) ∧ Has mo (bmP f x) l2 ∧ (y ≠ [] → KN (some (.str y)) ((fi, ciP mo) :: l2)) ∧ (y = [] → KN none l2))) :
    WN B ((fi, ciP mo) :: l) (pyNext (.ref fi)) KN := fun s F => by
  obtain ⟨o, e, t, rfl⟩ := F.get .head
  obtain ⟨om, em, rfl⟩ := F.get (.tail h1)
  have ef := F.base _ _ (B.bs.X _ _ hf)
  have hT : s.TypeIs (.ref fi) "callable_iterator" := ⟨_, e, rfl⟩
  unfold pyNext
  refine wpAny_bind (wpAny_attempt (wpAny_callSpecial?_slot (name := Str.ofString "__next__") hT slot_ci_next (wpAny_call_entry slot_ci_next hT entry_ci_next ?_ (args_ci_next _))))
  unfold Builtin.«callable_iterator.__next__»
  show wpAny _ _ (field (.ref fi) 2 >>= _) _ _ s
  refine wpAny_bind (wpAny_field e rfl (x := .bool false) rfl ?_)
  show wpAny _ _ (if (Value.bool false == Value.bool true) = true then _ else _) _ _ s
  rw [if_neg (by decide)]
  show wpAny _ _ (field (.ref fi) 0 >>= _) _ _ s
  refine wpAny_bind (wpAny_field e rfl (x := .ref mo) rfl ?_)
  refine wpAny_bind (wpAny_attempt ?_)
  have hbor : ∀ {A : Around} {E : Value → Shared → Prop} {Q : Bool → Shared → Prop} {s : Shared}, s.heap.get? mo = some (methodObj (.ref f) (.ref x)) → s.heap.get? f = some { cls := .type "function", data := .func fd } → Q true s → wpAny (model pw w) A (borrowsExactly (.ref mo)) Q E s := fun em ef q => by
    unfold borrowsExactly
    refine wpAny_bind (wpAny_load em ?_)
    simp only [methodObj, beq_self_eq_true, if_true]
    show wpAny _ _ (load f >>= _) _ _ _
    exact wpAny_bind (wpAny_load ef (wpAny_pure q))
  unfold callOutOfASlot
  refine wpAny_bind (hbor em ef ?_)
  simp only [if_true]
  refine borrowed_call (ks_codeAny_call_bound em (codeAny_mono (hc _ (.cons okR .nil) s F) fun r s1 z => ?_))
  rcases r with e1 | (v | _ | _ | _) <;> first | exact z.elim | skip
  obtain ⟨p, l1, hp, F1, y, l2, rfl, hi, hm, k1, k2⟩ := z
  obtain ⟨t2, rfl⟩ := hp
  have F2 := F1.im hi
  obtain ⟨o2, e2, t3, rfl⟩ := F2.get .head
  obtain ⟨om2, em2, rfl⟩ := F2.get (.tail hm)
  have ef2 := F2.base _ _ (B.bs.X _ _ hf)
  show wpAny _ _ (field (.ref fi) 2 >>= _) _ _ s1
  refine wpAny_bind (wpAny_field e2 rfl (x := .bool false) rfl ?_)
  show wpAny _ _ (if (Value.bool false == Value.bool true) = true then _ else _) _ _ s1
  rw [if_neg (by decide)]
  show wpAny _ _ (field (.ref fi) 1 >>= _) _ _ s1
  refine wpAny_bind (wpAny_field e2 rfl (x := .str (S []) t3) rfl ?_)
  refine wpAny_bind (wpAny_holding (wpAny_eqBool_str ?_))
  by_cases q : y = []
  · subst q
    rw [decide_eq_true rfl]
    simp only [Bool.not_true, Bool.false_eq_true, if_false]
    refine wpAny_bind (wpAny_rule ?_)
    refine wpAny_bind (m := field (.ref fi) 0 >>= fun v => slotLetsGo "callable_iterator.__next__" v _ >>= fun _ => setField (.ref fi) 0 .none >>= fun _ => setField (.ref fi) 1 .none >>= fun _ => setField (.ref fi) 2 (.bool true)) ?_
    refine wpAny_bind (wpAny_field e2 rfl (x := .ref mo) rfl ?_)
    refine wpAny_bind ?_
    unfold slotLetsGo
    refine wpAny_bind (hbor em2 ef2 ?_)
    rw [if_pos rfl]
    refine wpAny_pure ?_
    refine wpAny_bind (wpAny_setField_rec e2 (by simp) fun h1 g1 b1 => ?_)
    refine wpAny_bind (wpAny_setField_rec g1 (by simp) fun h2 g2 b2 => ?_)
    refine wpAny_setField_rec g2 (by simp) fun h3 g3 b3 => ?_
    have hb : ∀ b o, b ≠ fi → s1.heap.get? b = some o → h3.get? b = some o := fun b o hb e => (b3.2 b hb).trans ((b2.2 b hb).trans ((b1.2 b hb).trans e))
    show wpAny _ _ (newExc (.type "StopIteration") [] >>= _) _ _ _
    refine wpAny_bind ?_
    simp only [newExc, newTuple]
    refine wpAny_bind (wpAny_newObj_type ?_ (by size_fits))
    refine wpAny_bind (m := firstArgMember _ _) (wpAny_of_eq (a := Value.none) (by first | rfl | (simp only [firstArgMember]; rfl)) ?_)
    refine wpAny_newObj_type ?_ (by size_fits)
    simp only [raiseNew]
    refine wpAny_bind (wpAny_handled ?_)
    rw [show B.A.in1.handled = none from B.hA.hh]
    refine wpAny_bind (wpAny_pure (wpAny_throw ?_))
    refine wpAny_bind (wpAny_isInstance (T := "StopIteration") (b := true) ⟨_, Heap.get?_push_size _ rfl, rfl⟩ isSubtype_stop ?_)
    exact wpAny_pure ⟨_, F2.gone (t := s1.toks) .head fun b o hne e => Heap.get?_push_of_some _ (Heap.get?_push_of_some _ (hb b o hne e)), .inl ⟨rfl, k2 rfl⟩⟩
  · have hne : decide (S [] = S y) = false := decide_eq_false fun e => q (S_inj.mp e).symm
    rw [hne]
    simp only [Bool.not_false, if_true]
    refine wpAny_pure ?_
    exact ⟨_, rfl, wpAny_pure ⟨_, F2, .inr ⟨_, _, rfl, okS, k1 q⟩⟩⟩
end
inductive Wk2 : List Ent → List Ent → Prop
  | nil : Wk2 [] []
  | cons {a P P' l l'} : (∀ o, P o → P' o) → Wk2 l l' → Wk2 ((a, P) :: l) ((a, P') :: l')
theorem Wk2.refl : ∀ l, Wk2 l l
  | [] => .nil
  | (_, _) :: l => .cons (fun _ h => h) (Wk2.refl l)
theorem Wk2.trans {l m k : List Ent} (h : Wk2 l m) : Wk2 m k → Wk2 l k := by
  induction h generalizing k with
  | nil => exact id
  | cons h1 _ ih => intro h; cases h with | cons h2 h => exact .cons (fun o x => h2 o (h1 o x)) (ih h)
theorem Wk2.perm {m k : List Ent} (hp : m.Perm k) : ∀ {l}, Wk2 l m → ∃ l', l.Perm l' ∧ Wk2 l' k := by
  induction hp with
  | nil => intro l h; exact ⟨l, .refl _, h⟩
  | cons x _ ih =>
    intro l h
    cases h with
    | cons h1 h2 =>
      obtain ⟨l', p, q⟩ := ih h2
      exact ⟨_, p.cons _, .cons h1 q⟩
  | swap x y _ =>
    intro l h
    cases h with
    | cons h1 h2 => cases h2 with | cons h2 h3 => exact ⟨_, .swap .., .cons h2 (.cons h1 h3)⟩
  | trans _ _ ih1 ih2 =>
    intro l h
    obtain ⟨l1, p1, q1⟩ := ih1 h
    obtain ⟨l2, p2, q2⟩ := ih2 q1
    exact ⟨l2, p1.trans p2, q2⟩
theorem Wk2.app {m k : List Ent} : ∀ {l}, Wk2 l (m ++ k) → ∃ l1 l2, l = l1 ++ l2 ∧ Wk2 l2 k := by
  induction m with
  | nil => intro l h; exact ⟨[], l, rfl, h⟩
  | cons p m ih =>
    intro l h
    cases h with
    | cons h1 h2 =>
      obtain ⟨l1, l2, rfl, h⟩ := ih h2
      exact ⟨_ :: l1, l2, rfl, h⟩
theorem Im.form {l l' : List Ent} (h : Im l l') : ∃ m l1, l.Perm (m ++ l1) ∧ Wk2 l1 l' := by
  induction h with
  | refl => exact ⟨[], _, .refl _, .refl _⟩
  | @keep p l l1 l2 e _ ih =>
    obtain ⟨m, l1, p1, q⟩ := ih
    exact ⟨m, _, e.perm.trans ((p1.cons _).trans List.perm_middle.symm), .cons (fun _ h => h) q⟩
  | wk e w _ ih =>
    obtain ⟨m, l1, p1, q⟩ := ih
    exact ⟨m, _, e.perm.trans ((p1.cons _).trans List.perm_middle.symm), .cons w q⟩
  | @drop q _ _ _ ih =>
    obtain ⟨m, l1, p1, q1⟩ := ih
    exact ⟨q :: m, l1, p1.cons _, q1⟩
  | perm k _ ih =>
    obtain ⟨m, l1, p1, q1⟩ := ih
    exact ⟨m, l1, k.trans p1, q1⟩
theorem Im.of_wk {l l' : List Ent} (h : Wk2 l l') : Im l l' := by
  induction h with
  | nil => exact .refl
  | cons h1 _ ih => exact .wk .head h1 ih
theorem Im.drops {l l' : List Ent} (h : Im l l') : ∀ m : List Ent, Im (m ++ l) l'
  | [] => h
  | _ :: m => .drop (Im.drops h m)
theorem Im.trans {l m k : List Ent} (h1 : Im l m) (h2 : Im m k) : Im l k := by
  obtain ⟨m1, l1, p1, q1⟩ := h1.form
  obtain ⟨m2, l2, p2, q2⟩ := h2.form
  obtain ⟨l3, p3, q3⟩ := q1.perm p2
  obtain ⟨a, b, rfl, q4⟩ := q3.app
  refine .perm (p1.trans ((List.Perm.refl m1).append p3)) ?_
  exact Im.drops (Im.drops (Im.of_wk (q4.trans q2)) a) m1
theorem imTl {l l' : List Ent} (h : Im l l') : ∀ C : List Ent, Im (C ++ l) (C ++ l')
  | [] => h
  | _ :: C => .keep .head (imTl h C)
noncomputable def dec : Nat → Nat → List Nat
  | 0, _ => []
  | j + 1, c => (c % 64) :: dec j (c / 64)
noncomputable def okPk : List Nat → Nat → Bool
  | [], _ => true
  | i :: is, m => Nat.blt i m && !is.contains i && okPk is m
noncomputable def pk (l : List Ent) : List Nat → List Ent → List Ent
  | [], r => r
  | i :: is, r => match gE l i with
    | some e => e :: pk l is r
    | none => pk l is r
noncomputable def rm (is : List Nat) : Nat → Nat → List Ent → List Ent
  | 0, _, l => l
  | _ + 1, _, [] => []
  | m + 1, k, e :: l => if is.contains k then rm is m (k + 1) l else e :: rm is m (k + 1) l
noncomputable def drp : Nat → List Ent → List Ent
  | 0, l => l
  | _ + 1, [] => []
  | j + 1, _ :: l => drp j l
theorem gE_eq : ∀ (l : List Ent) (i : Nat), gE l i = l[i]?
  | [], _ => by simp [gE]
  | _ :: _, 0 => rfl
  | _ :: r, i + 1 => by simpa [gE] using gE_eq r i
theorem okPk_nd : ∀ {is : List Nat} {m : Nat}, okPk is m = true → is.Nodup ∧ ∀ i ∈ is, i < m
  | [], _, _ => ⟨List.nodup_nil, fun _ h => nomatch h⟩
  | i :: is, m, h => by
    simp only [okPk, Bool.and_eq_true, Bool.not_eq_true', List.contains_eq_mem, decide_eq_false_iff_not] at h
    obtain ⟨⟨h1, h2⟩, h3⟩ := h
    obtain ⟨h4, h5⟩ := okPk_nd h3
    refine ⟨List.nodup_cons.mpr ⟨h2, h4⟩, fun j hj => ?_⟩
    rcases List.mem_cons.mp hj with rfl | hj
    · exact Nat.blt_eq.mp h1
    · exact h5 j hj
theorem pk_eq (l : List Ent) : ∀ (is : List Nat) (r : List Ent), pk l is r = is.filterMap (gE l) ++ r
  | [], _ => rfl
  | i :: is, r => by
    unfold pk
    rw [List.filterMap_cons]
    cases gE l i with
    | none => exact pk_eq l is r
    | some e => dsimp only; rw [pk_eq l is r, List.cons_append]
theorem rm_eq (is : List Nat) : ∀ (m k : Nat) (l : List Ent), rm is m k l = ((List.range' k m).filter fun i => !is.contains i).filterMap (fun i => l[i - k]?) ++ l.drop m
  | 0, _, _ => rfl
  | m + 1, k, [] => by simp [rm]
  | m + 1, k, e :: l => by
    have hmap : ∀ xs : List Nat, (∀ i ∈ xs, k < i) → xs.filterMap (fun i => (e :: l)[i - k]?) = xs.filterMap (fun i => l[i - (k + 1)]?) := fun xs => by
      induction xs with
      | nil => intro _; rfl
      | cons x xs ih =>
        intro h
        have := h x (.head _)
        rw [List.filterMap_cons, List.filterMap_cons, ih fun i hi => h i (.tail _ hi), show x - k = (x - (k + 1)) + 1 by omega, List.getElem?_cons_succ]
    have hr : ∀ i ∈ (List.range' (k + 1) m).filter (fun i => !is.contains i), k < i := fun i hi => by
      have := (List.mem_range'_1.mp (List.mem_filter.mp hi).1).1
      omega
    unfold rm
    rw [List.range'_succ, List.filter_cons, List.drop_succ_cons]
    cases q : is.contains k with
    | true =>
      simp only [if_true, Bool.not_true, Bool.false_eq_true, if_false]
      rw [rm_eq is m (k + 1) l, hmap _ hr]
    | false =>
      simp only [Bool.false_eq_true, if_false, Bool.not_false, if_true]
      rw [List.filterMap_cons, Nat.sub_self, List.getElem?_cons_zero]
      dsimp only
      rw [List.cons_append, rm_eq is m (k + 1) l, hmap _ hr]
theorem take_eq : ∀ (l : List Ent) (m : Nat), l.take m = (List.range m).filterMap (fun i => l[i]?)
  | l, 0 => rfl
  | l, m + 1 => by
    rw [List.take_add_one, List.range_succ, List.filterMap_append, take_eq l m]
    cases e : l[m]? <;> simp [e]
theorem pick_perm {is : List Nat} {m : Nat} (h : okPk is m = true) (l : List Ent) : l.Perm (is.filterMap (gE l) ++ rm is m 0 l) := by
  obtain ⟨h1, h2⟩ := okPk_nd h
  have e1 : is.filterMap (gE l) = is.filterMap (fun i => l[i]?) := by rw [show gE l = fun i => l[i]? from funext (gE_eq l)]
  rw [e1, rm_eq]
  have p1 : (is ++ (List.range' 0 m).filter fun i => !is.contains i).Perm (List.range m) := by
    rw [← List.range_eq_range']
    refine List.Perm.trans (List.Perm.append ?_ (.refl _)) (List.filter_append_perm (fun i => is.contains i) (List.range m))
    refine (List.perm_ext_iff_of_nodup h1 (List.nodup_range.filter _)).mpr fun i => ?_
    rw [List.mem_filter, List.mem_range, List.contains_iff_mem]
    exact ⟨fun q => ⟨h2 i q, q⟩, fun q => q.2⟩
  have p2 := (p1.filterMap fun i => l[i]?)
  rw [List.filterMap_append, ← take_eq] at p2
  have p3 := (p2.append (List.Perm.refl (l.drop m))).symm
  rw [List.take_append_drop, List.append_assoc] at p3
  exact p3
theorem imxk {l l' : List Ent} (j c m : Nat) (hn : okPk (dec j c) m = true) (h : pk l (dec j c) (drp j l') = l') (k : Im (rm (dec j c) m 0 l) (drp j l')) : Im l l' := by
  have p : Im l ((dec j c).filterMap (gE l) ++ drp j l') := .perm (pick_perm hn l) (imTl k _)
  rw [← pk_eq, h] at p
  exact p
theorem rm_drop (is : List Nat) : ∀ (m k : Nat) (l : List Ent), Im (rm is m k l) (drp m l)
  | 0, _, _ => .refl
  | _ + 1, _, [] => .refl
  | m + 1, k, e :: l => by
    unfold rm drp
    split
    · exact rm_drop is m (k + 1) l
    · exact .drop (rm_drop is m (k + 1) l)
theorem imx {l l' : List Ent} (j c m : Nat) (hn : okPk (dec j c) m = true) (h : pk l (dec j c) (drp m l) = l') : Im l l' := by
  have p : Im l ((dec j c).filterMap (gE l) ++ drp m l) := .perm (pick_perm hn l) (imTl (rm_drop ..) _)
  rw [← pk_eq, h] at p
  exact p
theorem imw {l l' : List Ent} {a : Addr} {P P' : Obj → Prop} (i j : Nat) (h : gE l i = some (a, P)) (h' : gE l' j = some (a, P')) (w : ∀ o, P o → P' o) (k : Im (sE l i (a, P')) l') : Im l l' := by
  have : Im l (sE l i (a, P')) := by
    clear h' k
    induction l generalizing i with
    | nil => exact nomatch h
    | cons e r ih =>
      cases i with
      | zero => cases h; exact .wk .head w .refl
      | succ i => exact .keep .head (ih i h)
  exact this.trans k
theorem ints_oks : ∀ {ns : List Int} {vs : List Value}, Oks (ns.map Pt.int) vs → IntsAre vs ns
  | [], _, .nil => .nil
  | _ :: _, _, .cons ⟨t, e⟩ r => by subst e; exact .cons _ t (ints_oks r)
section
variable {G : Gr} {w : World} {n : Nat} {B : Bx G w n} {l : List Ent} {KV : Pt → List Ent → Prop} {a : Addr}
theorem c_sum {ns : List Int} (hs : BL G a (ns.map Pt.int)) (h : KV (.int ns.sum) l) : WC B l (.builtin "sum") [.ref a] KV := on1 fun v s hv F => by
  cases hv
  obtain ⟨us, ok, hl⟩ := hs
  have hi := ints_oks ok
  obtain ⟨o, e, r⟩ := hl
  have hl' : s.heap.IsList a us.toArray := ⟨o, F.base _ _ e, r⟩
  obtain ⟨xs, hx⟩ := hi.allInts.items
  rw [hx] at hl'
  refine sum_intListG B.hA.hh hl' fun h' tk t' hk => ?_
  have e1 : ns = xs.toList.map (·.1) := by
    rw [← nums_intItems, ← hx]
    exact (show numsOf us.toArray.toList = ns from hi.numsOf).symm
  have e2 : preSum (numAt xs) xs.size = ns.sum := by
    rw [preSum_eq, List.take_of_length_le (by simp), e1]
  rw [e2]
  exact vi okI (F.keep hk) h
end
section
variable {G : Gr} {w : World} {n : Nat} {B : Bx G w n} {l l' : List Ent} {env : Env} {pos : Pos} {scope : Scope}
noncomputable abbrev qEmD2 (w : World) (acc : Addr) (y : Word) (K : List Ent → Prop) : Pt → List Ent → Prop := fun q l => ∃ ks j, gE l j = some (acc, dct w ks) ∧ ks.length ≤ 1000 ∧ K (sE l j (acc, dct w (putK ks y q)))
noncomputable abbrev qEmD (B : Bx G w n) (ve : Expr) (env : Env) (acc : Addr) (K : List Ent → Prop) : Pt → List Ent → Prop := fun p l => ∃ y, p = .str y ∧ WV B l (eval ve env) (qEmD2 w acc y K)
theorem k_emitD {ke ve : Expr} {pp : Pos} {acc : Addr} {K : List Ent → Prop} (h : WV B l (eval ke env) (qEmD B ve env acc K)) :
    WU B l (do
      let kv ← eval ke env
      let vv ← holding [kv] (eval ve env)
      standAt pp
      holding [kv, vv] (dictSet acc kv vv)) K := fun s F =>
  wpAny_bind (h.use F fun v p l s hp h F => by
    obtain ⟨y, rfl, h⟩ := h
    obtain ⟨t, rfl⟩ := hp
    refine wpAny_bind (wpAny_holding (h.use F fun u q l s hq h F => ?_))
    obtain ⟨ks, j, h1, hz, h⟩ := h
    refine wpAny_bind (wpAny_standAt (wpAny_holding ?_))
    obtain ⟨kv, hk, hd⟩ := F.dict (Has.of h1)
    refine wpAny_dictSet_pairs (knd := SK w) sk_is hd (fun h' hd' hs => ?_) (by rw [hk.len]; exact sz (by omega))
    obtain ⟨o, e, ho⟩ := Heap.dictOf_iff.mp hd'
    exact ui (F.upd (P' := dct w (putK ks y q)) (t := s.toks + 1) (Rep.of h1) (fun b o hb e => (hs.2 b hb).trans e) ⟨o, e, _, hk.put hq, ho⟩) h)
theorem k_compD1 {α : Type} {ke ve target iter : Expr} {acc : Addr} {K : List Ent → Prop} (m : Nat) (P : Nat → Obj → Prop) (item : Nat → Pt → Prop) (Φ : Nat → α → Prop) (Lg : Nat → α → List Ent)
    (src : ∀ it, Src B it m P item fun k l => ∃ x, Φ k x ∧ l = Lg k x)
    (turn : ∀ it k x p (K' : List Ent → Prop), k < m → Φ k x → item k p → (∀ l x', Φ (k + 1) x' → Im l ((it, P (k + 1)) :: Lg (k + 1) x') → K' l) →
      WU1 B ((it, P (k + 1)) :: Lg k x) (asgT target env (.ref it)) p (fun l => WV B l (eval ke env) (qEmD B ve env acc K')))
    (fin : ∀ x, Φ m x → K (Lg m x)) (it : Addr) (x₀ : α) (h0 : Φ 0 x₀) (him : Im l ((it, P 0) :: Lg 0 x₀)) (hself : WV B l (pyIter (.ref it)) (fun q l' => q = .ref it ∧ Im l' l)) :
    WD B l (.compStart (.DictComp ke ve [⟨target, iter, [], 0⟩] scope pos) 0 (.ref it) (.ref acc) env) K :=
  k_compStart (d := 0) rfl ⟨fun _ => rfl, rfl, rfl⟩ hself (k_compLoop (target := target) (pp := iter.pos) (ifs := []) (emit := fun kk => (do
      let kv ← eval ke env
      let vv ← holding [kv] (eval ve env)
      standAt { ke.pos with endLine := ve.pos.endLine, endCol := ve.pos.endCol }
      holding [kv, vv] (dictSet acc kv vv) : Sem Unit) >>= fun _ => kk) m P item Φ Lg (fun _ => rfl) (fun _ => ⟨rfl, fun _ => rfl, rfl⟩) src
    (fun it k x p K' hk hx hp hK v hv s F => wpAny_mono (turn it k x p K' hk hx hp hK v hv s F) (fun _ s' ⟨l', F', z⟩ => ⟨l', F', .of (k_emitD z)⟩) fun _ _ z => z) fin it x₀ h0 him)
end
section
variable {G : Gr} {w : World} {l : List Ent} {n : Nat} {KV : Pt → List Ent → Prop}
theorem bind1 {fd : FuncData} {p : Pt} {x : Str} (h : ∀ v, bindArgs fd ⟨[v], []⟩ = pure [(x, v)]) (vs : List Value) (hv : Oks [p] vs) : ∃ b, bindArgs fd ⟨vs, []⟩ = pure b.reverse ∧ b.map (·.1) = [x] ∧ Binds b [bd x p] := by
  cases hv with | cons hp hv =>
  cases hv
  exact ⟨_, h _, rfl, .cons hp .nil⟩
theorem s_IFMT {m : Int} (B : Bx G w 1) (h : KV (.int (Builtin.bitAnd m 61440)) l) : WC B l (.ref 197) [.int m] KV := by
  refine k_enter (fd := f197) (body := fBody st11) (by kernel_rfl) (by kernel_rfl) (by kernel_rfl) (by kernel_rfl) (by kernel_rfl) (by kernel_rfl) (by kernel_rfl) (bind1 (x := "mode") fun v => by kernel_rfl) fun L env B KF en hR hN => ?_
  refine k_Return ?_
  refine k_BinOp ?_
  refine k_name 0 0 en rfl rfl (by kernel_rfl) ?_
  refine k_int ?_
  refine k_and ?_
  exact hR _ _ _ (.drop .refl) h
theorem s_IMODE {m : Int} (B : Bx G w 1) (h : KV (.int (Builtin.bitAnd m 4095)) l) : WC B l (.ref 190) [.int m] KV := by
  refine k_enter (fd := f190) (body := fBody st10) (by kernel_rfl) (by kernel_rfl) (by kernel_rfl) (by kernel_rfl) (by kernel_rfl) (by kernel_rfl) (by kernel_rfl) (bind1 (x := "mode") fun v => by kernel_rfl) fun L env B KF en hR hN => ?_
  refine k_Return ?_
  refine k_BinOp ?_
  refine k_name 0 0 en rfl rfl (by kernel_rfl) ?_
  refine k_int ?_
  refine k_and ?_
  exact hR _ _ _ (.drop .refl) h
theorem s_ISDIR {m : Int} (B : Bx G w 2) (h : KV (.bool (Builtin.bitAnd m 61440 == 16384)) l) : WC B l (.ref 204) [.int m] KV := by
  refine k_enter (fd := f204) (body := fBody st19) (by kernel_rfl) (by kernel_rfl) (by kernel_rfl) (by kernel_rfl) (by kernel_rfl) (by kernel_rfl) (by kernel_rfl) (bind1 (x := "mode") fun v => by kernel_rfl) fun L env B KF en hR hN => ?_
  refine k_Return ?_
  refine k_Compare ?_
  refine k_call (f := 197) (fd := f197) en (by kernel_rfl) (by kernel_rfl) (by kernel_rfl) ?_
  refine k_items_cons ?_
  refine k_name 0 0 en rfl rfl (by kernel_rfl) ?_
  refine k_items_nil ?_
  refine s_IFMT (B.le (by decide)) ?_
  refine k_global (v := .int 16384 452) en (by kernel_rfl) okI (by kernel_rfl) ?_
  refine k_eq ?_
  exact hR _ _ _ (.drop .refl) h
end
structure FileR where
  ta : Addr
  ha : Addr
  mode : Int
  held : List Int
  man : Int
noncomputable def fileL (r : FileR) : List Ent := [(r.ta, tup [.int r.mode, .ref r.ha, .int r.man]), (r.ha, lst (r.held.map Pt.int))]
noncomputable def FileOk (k : Nat) (r : FileR) : Prop := 0 ≤ r.mode ∧ 0 ≤ r.man ∧ r.man < 40 ∧ r.held.length = (if k < 4 then 3 else 0) ∧ ∀ j ∈ r.held, (k : Int) < j ∧ j ≤ 4
theorem and_nat (m n : Nat) : Builtin.bitAnd m n = ((m &&& n : Nat) : Int) := rfl
theorem and_le {m n : Int} (hm : 0 ≤ m) (hn : 0 ≤ n) : Builtin.bitAnd m n ≤ m := by
  obtain ⟨m, rfl⟩ := Int.eq_ofNat_of_zero_le hm
  obtain ⟨n, rfl⟩ := Int.eq_ofNat_of_zero_le hn
  rw [and_nat]
  have : m &&& n ≤ m := Nat.and_le_left
  omega
theorem files_snoc (rs : List FileR) (x : FileR) (l : List Ent) : (rs ++ [x]).reverse.flatMap fileL ++ l = (x.ta, tup [.int x.mode, .ref x.ha, .int x.man]) :: (x.ha, lst (x.held.map Pt.int)) :: (rs.reverse.flatMap fileL ++ l) := by simp [fileL]
theorem at_int {is : List Int} {k : Nat} (h : k < is.length) : (is.map Pt.int)[k]? = some (.int (is.getD k 0)) := by
  simp [List.getD, h]
theorem mo_nn (r : Int) : 0 ≤ r / 40 / 4 % 2 ^ Int.toNat 18 := Int.emod_nonneg _ (by decide)
theorem next_held {k : Nat} {hs : List Int} {r : Int} (h : ∀ j ∈ hs, (k : Int) < j ∧ j ≤ 4) (hk : k < 4) : ∀ j ∈ hs ++ [(k : Int) + 1 + r % (4 - k)], (k : Int) < j ∧ j ≤ 4 := by
  intro j hj
  rcases List.mem_append.mp hj with hj | hj
  · exact h j hj
  · rw [List.mem_singleton.mp hj]
    have := Int.emod_nonneg r (b := 4 - (k : Int)) (by omega)
    have := Int.emod_lt_of_pos r (b := 4 - (k : Int)) (by omega)
    omega
theorem next_file {k : Nat} {rs : List FileR} {x : List Int × Int} {a ha : Addr} {mo : Int} (hr : rs.length = k ∧ ∀ k r, rs[k]? = some r → FileOk k r) (hx : x.1.length = (if k < 4 then 3 else 0) ∧ (∀ j ∈ x.1, (k : Int) < j ∧ j ≤ 4)) (hm : 0 ≤ mo) :
    (rs ++ [FileR.mk a ha mo x.1 (x.2 % 40)]).length = k + 1 ∧ ∀ k r, (rs ++ [FileR.mk a ha mo x.1 (x.2 % 40)])[k]? = some r → FileOk k r := by
  obtain ⟨rfl, hr⟩ := hr
  refine ⟨by simp, fun k' r' e => ?_⟩
  by_cases q : k' < rs.length
  · rw [List.getElem?_append_left q] at e; exact hr _ _ e
  · rw [List.getElem?_append_right (by omega)] at e
    have q' : k' - rs.length = 0 := by
      cases q2 : k' - rs.length with
      | zero => rfl
      | succ n => rw [q2] at e; simp at e
    have : k' = rs.length := by omega
    subst this
    rw [q'] at e; simp at e
    subst e
    exact ⟨hm, Int.emod_nonneg _ (by decide), Int.emod_lt_of_pos _ (by decide), hx.1, hx.2⟩
section
variable {G : Gr} {w : World} {l : List Ent} {n : Nat} {KV : Pt → List Ent → Prop}
theorem s_files {sa : Addr} {iis : List Int} (B : Bx G w 2) (hs : BL G sa (iis.map Pt.int)) (hl : iis.length ≤ 63)
    (h : ∀ a (rs : List FileR), rs.length = 5 → (∀ k r, rs[k]? = some r → FileOk k r) → KV (.ref a) ((a, lst (rs.map fun r => Pt.ref r.ta)) :: (rs.reverse.flatMap fileL ++ l))) : WC B l (.ref 251) [.ref sa] KV := by
  refine k_enter (fd := f251) (body := fBody st35) (by kernel_rfl) (by kernel_rfl) (by kernel_rfl) (by kernel_rfl) (by kernel_rfl) (by kernel_rfl) (by kernel_rfl) (bind1 (x := "script") fun v => by kernel_rfl) fun L env B KF en hR hN => ?_
  refine k_Assign ?_
  refine k_List ?_
  refine k_items_cons ?_
  refine k_int ?_
  refine k_items_cons ?_
  refine k_int ?_
  refine k_items_cons ?_
  refine k_int ?_
  refine k_items_cons ?_
  refine k_int ?_
  refine k_items_cons ?_
  refine k_int ?_
  refine k_items_nil ?_
  refine ⟨Nat.le_of_ble_eq_true rfl, fun a => ?_⟩
  refine k_store 1 1 en rfl (by kernel_rfl) ?_
  refine .im (l' := (a, ils [.int 5223193, .int 4420532, .int 1280941, .int 381463, .int 5310206]) :: (L, nsP [bd "script" (.ref sa), bd "numbers" (.ref a), ("k", none)]) :: l) (.wk .head ils_of (.wk .head (Wk.w (.keep (.keep (.new .refl)))) .refl)) ?_
  refine k_forR (m := iis.length) (fun _ (ns : List Int) => ns.length = 5) (fun _ ns => (a, ils (ns.map Pt.int)) :: (L, nsP [bd "script" (.ref sa), bd "numbers" (.ref a), ("k", none)]) :: l) en (by kernel_rfl) ?_ ?_ ?_
  · refine k_bcall (id := "len") en (by kernel_rfl) (by kernel_rfl) (by kernel_rfl) ?_
    refine k_items_cons ?_
    refine k_name 1 0 en rfl rfl (by kernel_rfl) ?_
    refine k_items_nil ?_
    refine c_len (.ofB (by assumption)) (by first | decide | omega | (simp; omega) | exact Nat.le_of_ble_eq_true rfl | (simp; done)) ?_
    rw [List.length_map]
    exact .mk [_, _, _, _, _] (by omega) rfl .refl
  · intro it k ns KF' hk hn hN' _ hR'
    have ho := at_int (is := ns) (k := ((k : Int) % 5).toNat) (by omega)
    have hv := at_int (is := iis) (k := ((k : Int)).toNat) (by omega)
    refine k_asgN ?_
    refine k_store 2 2 en rfl (by kernel_rfl) ?_
    refine k_AugSub ?_
    refine k_name 2 1 en rfl rfl (by kernel_rfl) ?_
    refine k_BinOp ?_
    refine k_name 2 2 en rfl rfl (by kernel_rfl) ?_
    refine k_int ?_
    refine k_mod (by first | with_reducible assumption | decide | omega) ?_
    refine k_get' (.ofI 1 rfl) (by omega) (by omega) (by assumption) ?_
    refine k_Subscript ?_
    refine k_name 2 0 en rfl rfl (by kernel_rfl) ?_
    refine k_name 2 2 en rfl rfl (by kernel_rfl) ?_
    refine k_get (.ofB (by assumption)) (by omega) (by omega) (by assumption) ?_
    refine k_iadd ?_
    refine k_setI 1 rfl (by omega) (by omega) (by first | decide | omega | (simp; omega) | exact Nat.le_of_ble_eq_true rfl | (simp; done)) ?_
    refine k_nil ?_
    exact (hN' _ (ns.set _ _) (by simp [hn]) (by rw [List.map_set]; exact .keep .head (.keep .head (.wk .head (Wk.w (.keep (.keep (.forget .refl)))) .refl)))).1
  · intro ns hn
    refine k_nil ?_
    refine nx_next ?_
    refine k_Assign ?_
    refine k_List ?_
    refine k_items_nil ?_
    refine ⟨Nat.le_of_ble_eq_true rfl, fun fa => ?_⟩
    refine k_store 2 3 en rfl (by kernel_rfl) ?_
    refine .im (l' := (fa, lst []) :: (a, ils (ns.map Pt.int)) :: (L, nsP [bd "script" (.ref sa), bd "numbers" (.ref a), ("k", none), bd "files" (.ref fa), ("rest", none), ("held", none), ("turn", none), ("manner", none), ("mode", none)]) :: l) (.keep .head (.keep .head (.wk .head (Wk.w (.keep (.keep (.keep (.keep (.new (.new (.new (.new (.new .refl)))))))))) .refl))) ?_
    refine k_forR (m := 5) (fun k (rs : List FileR) => rs.length = k ∧ ∀ k r, rs[k]? = some r → FileOk k r) (fun _ rs => (fa, lst (rs.map fun r => Pt.ref r.ta)) :: (a, ils (ns.map Pt.int)) :: (L, nsP [bd "script" (.ref sa), bd "numbers" (.ref a), ("k", none), bd "files" (.ref fa), ("rest", none), ("held", none), ("turn", none), ("manner", none), ("mode", none)]) :: (rs.reverse.flatMap fileL ++ l)) en (by kernel_rfl) ?_ ?_ ?_
    · refine k_int ?_
      exact .mk [] (by omega) ⟨rfl, by simp⟩ .refl
    · intro it k rs KF' hk hr hN' _ hR'
      have hv := at_int (is := ns) (k := (k : Int).toNat) (by omega)
      refine k_asgN ?_
      refine k_store 3 2 en rfl (by kernel_rfl) ?_
      refine k_Assign ?_
      refine k_Subscript ?_
      refine k_name 3 1 en rfl rfl (by kernel_rfl) ?_
      refine k_name 3 2 en rfl rfl (by kernel_rfl) ?_
      refine k_get (.ofI 2 rfl) (by omega) (by omega) (by assumption) ?_
      refine k_store 3 4 en rfl (by kernel_rfl) ?_
      refine k_Assign ?_
      refine k_List ?_
      refine k_items_nil ?_
      refine ⟨Nat.le_of_ble_eq_true rfl, fun ha => ?_⟩
      refine k_store 4 5 en rfl (by kernel_rfl) ?_
      refine k_forR (m := if k < 4 then 3 else 0) (fun m (x : List Int × Int) => x.1.length = m ∧ (∀ j ∈ x.1, (k : Int) < j ∧ j ≤ 4)) (fun _ x => (ha, lst (x.1.map Pt.int)) :: (it, ri ((k + 1 : Nat) : Int) (((5 : Nat) : Int) - ((k + 1 : Nat) : Int)) 1) :: 
        (fa, lst (rs.map fun r => Pt.ref r.ta)) :: (a, ils (ns.map Pt.int)) :: (L, nsP [bd "script" (.ref sa), bd "numbers" (.ref a), bd "k" (.int k), bd "files" (.ref fa), bd "rest" (.int x.2), bd "held" (.ref ha), ("turn", none), ("manner", none), ("mode", none)]) :: (rs.reverse.flatMap fileL ++ l)) en (by kernel_rfl) ?_ ?_ ?_
      · refine k_IfExp ?_
        refine k_tCompare ?_
        refine k_name 4 2 en rfl rfl (by kernel_rfl) ?_
        refine k_int ?_
        refine k_lt ?_
        refine k_tb ?_
        refine ⟨fun q => ?_, fun q => ?_⟩
        · refine k_int ?_
          have e : (if k < 4 then 3 else 0) = 3 := if_pos (by have := of_decide_eq_true q; omega)
          rw [e]
          exact .mk ([], _) (by omega) ⟨rfl, by simp⟩ (.keep .head (.keep .head (.keep .head (.keep .head (.wk .head (Wk.w (.keep (.keep (.keep (.keep (.keep (.keep .refl))))))) .refl)))))
        · refine k_int ?_
          have e : (if k < 4 then 3 else 0) = 0 := if_neg (by have := of_decide_eq_false q; omega)
          rw [e]
          exact .mk ([], _) (by omega) ⟨rfl, by simp⟩ (.keep .head (.keep .head (.keep .head (.keep .head (.wk .head (Wk.w (.keep (.keep (.keep (.keep (.keep (.keep .refl))))))) .refl)))))
      · intro it2 m x KF2 hm hx hN2 _ hR2
        have hk4 : k < 4 := Decidable.byContradiction fun q => by rw [if_neg q] at hm; omega
        have hm3 : m < 3 := by rw [if_pos hk4] at hm; exact hm
        have hx1 := hx.1
        refine k_asgN ?_
        refine k_store 5 6 en rfl (by kernel_rfl) ?_
        refine k_Expr en (by kernel_rfl) ?_
        refine k_append ?_
        refine k_name 5 5 en rfl rfl (by kernel_rfl) ?_
        refine qm 1 rfl ?_
        refine k_meth1 ?_
        refine k_BinOp ?_
        refine k_BinOp ?_
        refine k_name 5 2 en rfl rfl (by kernel_rfl) ?_
        refine k_int ?_
        refine k_add ?_
        refine k_BinOp ?_
        refine k_name 5 4 en rfl rfl (by kernel_rfl) ?_
        refine k_BinOp ?_
        refine k_int ?_
        refine k_name 5 2 en rfl rfl (by kernel_rfl) ?_
        refine k_sub ?_
        refine k_mod (by first | with_reducible assumption | decide | omega) ?_
        refine k_add ?_
        refine c_append 1 rfl (by first | decide | omega | (simp; omega) | exact Nat.le_of_ble_eq_true rfl | (simp; done)) ?_
        refine ⟨rfl, ?_⟩
        refine k_Aug ?_
        refine k_load 5 4 en rfl rfl (by kernel_rfl) ?_
        refine k_BinOp ?_
        refine k_int ?_
        refine k_name 5 2 en rfl rfl (by kernel_rfl) ?_
        refine k_sub ?_
        refine k_ifdiv (by first | with_reducible assumption | decide | omega) (by first | with_reducible assumption | decide | omega) ?_
        refine k_store 5 4 en rfl (by kernel_rfl) ?_
        refine k_nil ?_
        exact (hN2 _ (x.1 ++ [(k : Int) + 1 + x.2 % (4 - k)], x.2 / (4 - k)) ⟨by simp [hx1], next_held hx.2 (by omega)⟩ (by rw [List.map_append]; exact .keep .head (.keep .head (.keep .head (.keep .head (.keep .head (.wk .head (Wk.w (.keep (.keep (.keep (.keep (.keep (.keep (.forget .refl)))))))) .refl))))))).1
      · intro x hx
        refine k_nil ?_
        refine nx_next ?_
        refine k_Assign ?_
        refine k_BinOp ?_
        refine k_name 4 4 en rfl rfl (by kernel_rfl) ?_
        refine k_int ?_
        refine k_mod (by first | with_reducible assumption | decide | omega) ?_
        refine k_store 4 7 en rfl (by kernel_rfl) ?_
        refine k_Aug ?_
        refine k_load 4 4 en rfl rfl (by kernel_rfl) ?_
        refine k_int ?_
        refine k_ifdiv (by first | with_reducible assumption | decide | omega) (by first | with_reducible assumption | decide | omega) ?_
        refine k_store 4 4 en rfl (by kernel_rfl) ?_
        refine k_Assign ?_
        refine k_BinOp ?_
        refine k_BinOp ?_
        refine k_name 4 4 en rfl rfl (by kernel_rfl) ?_
        refine k_int ?_
        refine k_fdiv (by first | with_reducible assumption | decide | omega) (by first | with_reducible assumption | decide | omega) ?_
        refine k_BinOp ?_
        refine k_int ?_
        refine k_int ?_
        refine k_powS (by decide) (by omega) (by omega) ?_
        refine k_mod (by first | with_reducible assumption | decide | omega) ?_
        refine k_store 4 8 en rfl (by kernel_rfl) ?_
        refine k_If ?_
        refine k_tCompare ?_
        refine k_BinOp ?_
        refine k_name 4 4 en rfl rfl (by kernel_rfl) ?_
        refine k_int ?_
        refine k_mod (by first | with_reducible assumption | decide | omega) ?_
        refine k_int ?_
        refine k_lt ?_
        refine k_tb ?_
        refine ⟨fun q => ?_, fun q => ?_⟩
        · refine k_Assign ?_
          refine k_BinOp ?_
          refine k_BinOp ?_
          refine k_name 4 8 en rfl rfl (by kernel_rfl) ?_
          refine k_call (f := 197) (fd := f197) en (by kernel_rfl) (by kernel_rfl) (by kernel_rfl) ?_
          refine k_items_cons ?_
          refine k_name 4 8 en rfl rfl (by kernel_rfl) ?_
          refine k_items_nil ?_
          refine s_IFMT (B.le (by decide)) ?_
          refine k_sub ?_
          refine k_int ?_
          refine k_add ?_
          refine k_store 4 8 en rfl (by kernel_rfl) ?_
          refine k_nil ?_
          refine nx_next ?_
          refine k_Expr en (by kernel_rfl) ?_
          refine k_append ?_
          refine k_name 4 3 en rfl rfl (by kernel_rfl) ?_
          refine qm 2 rfl ?_
          refine k_meth1 ?_
          refine k_Tuple ?_
          refine k_items_cons ?_
          refine k_name 4 8 en rfl rfl (by kernel_rfl) ?_
          refine k_items_cons ?_
          refine k_name 4 5 en rfl rfl (by kernel_rfl) ?_
          refine k_items_cons ?_
          refine k_name 4 7 en rfl rfl (by kernel_rfl) ?_
          refine k_items_nil ?_
          refine ⟨Nat.le_of_ble_eq_true rfl, fun a => ?_⟩
          refine c_append 3 rfl (by first | decide | omega | (simp; omega) | exact Nat.le_of_ble_eq_true rfl | (simp; done)) ?_
          refine ⟨rfl, ?_⟩
          refine k_nil ?_
          exact (hN' _ (rs ++ [⟨a, ha, x.2 / 40 / 4 % 2 ^ Int.toNat 18 - Builtin.bitAnd (x.2 / 40 / 4 % 2 ^ Int.toNat 18) 61440 + 16384, x.1, x.2 % 40⟩]) (next_file hr hx (by have := and_le (n := 61440) (mo_nn x.2) (by decide); omega)) (by rw [files_snoc, List.map_append]; exact .keep (.tail (.tail .head)) (.keep (.tail (.tail .head)) (.keep (.tail (.tail .head)) (.wk (.tail (.tail .head)) (Wk.w (.keep (.keep (.forget (.keep (.forget (.forget (.forget (.forget (.forget .refl)))))))))) .refl))))).1
        · refine k_nil ?_
          refine nx_next ?_
          refine k_Expr en (by kernel_rfl) ?_
          refine k_append ?_
          refine k_name 4 3 en rfl rfl (by kernel_rfl) ?_
          refine qm 2 rfl ?_
          refine k_meth1 ?_
          refine k_Tuple ?_
          refine k_items_cons ?_
          refine k_name 4 8 en rfl rfl (by kernel_rfl) ?_
          refine k_items_cons ?_
          refine k_name 4 5 en rfl rfl (by kernel_rfl) ?_
          refine k_items_cons ?_
          refine k_name 4 7 en rfl rfl (by kernel_rfl) ?_
          refine k_items_nil ?_
          refine ⟨Nat.le_of_ble_eq_true rfl, fun a => ?_⟩
          refine c_append 3 rfl (by first | decide | omega | (simp; omega) | exact Nat.le_of_ble_eq_true rfl | (simp; done)) ?_
          refine ⟨rfl, ?_⟩
          refine k_nil ?_
          exact (hN' _ (rs ++ [⟨a, ha, x.2 / 40 / 4 % 2 ^ Int.toNat 18, x.1, x.2 % 40⟩]) (next_file hr hx (mo_nn x.2)) (by rw [files_snoc, List.map_append]; exact .keep (.tail (.tail .head)) (.keep (.tail (.tail .head)) (.keep (.tail (.tail .head)) (.wk (.tail (.tail .head)) (Wk.w (.keep (.keep (.forget (.keep (.forget (.forget (.forget (.forget (.forget .refl)))))))))) .refl))))).1
    · intro rs hr
      refine k_nil ?_
      refine nx_next ?_
      refine k_Return ?_
      refine k_name 2 3 en rfl rfl (by kernel_rfl) ?_
      exact hR _ _ _ (.keep .head (.drop (.drop .refl))) (h _ _ hr.1 hr.2)
end
theorem bind2 {fd : FuncData} {p q : Pt} {x y : Str} (h : ∀ v u, bindArgs fd ⟨[v, u], []⟩ = pure [(x, v), (y, u)]) (vs : List Value) (hv : Oks [p, q] vs) : ∃ b, bindArgs fd ⟨vs, []⟩ = pure b.reverse ∧ b.map (·.1) = [y, x] ∧ Binds b [bd y q, bd x p] := by
  cases hv with | cons hp hv =>
  cases hv with | cons hq hv =>
  cases hv
  exact ⟨[_, _], h _ _, rfl, .cons hq (.cons hp .nil)⟩
noncomputable def written (y : List Nat) (m : Nat) : List Nat :=
  let piece := cutS y none (some (m / 4)) ++ [92] ++ cutS y (some (m / 4)) none
  if m % 4 = 3 then [34] ++ piece ++ [34] else piece ++ [([10, 9, 32] : List Nat).getD (m % 4) 0]
theorem sep_at {m : Nat} (h : m % 4 < 3) : ([10, 9, 32] : List Nat)[((m : Int) % 4).toNat]? = some (([10, 9, 32] : List Nat).getD (m % 4) 0) := by
  rw [show ((m : Int) % 4).toNat = m % 4 by omega]
  have : m % 4 = 0 ∨ m % 4 = 1 ∨ m % 4 = 2 := by omega
  rcases this with e | e | e <;> rw [e] <;> rfl
section
variable {G : Gr} {w : World} {l : List Ent} {n : Nat} {KV : Pt → List Ent → Prop}
theorem s_written {y : List Nat} {m : Nat} (B : Bx G w 1) (hy : y.length ≤ 100) (h : KV (.str (written y m)) l) : WC B l (.ref 258) [.str y, .int m] KV := by
  refine k_enter (fd := f258) (body := fBody st36) (by kernel_rfl) (by kernel_rfl) (by kernel_rfl) (by kernel_rfl) (by kernel_rfl) (by kernel_rfl) (by kernel_rfl) (bind2 (x := "word") (y := "manner") fun v u => by kernel_rfl) fun L env B KF en hR hN => ?_
  refine k_Assign ?_
  refine k_BinOp ?_
  refine k_name 0 0 en rfl rfl (by kernel_rfl) ?_
  refine k_int ?_
  refine k_fdiv (by first | with_reducible assumption | decide | omega) (by first | with_reducible assumption | decide | omega) ?_
  refine k_store 0 2 en rfl (by kernel_rfl) ?_
  refine k_Assign ?_
  refine k_BinOp ?_
  refine k_BinOp ?_
  refine k_sslice ?_
  refine k_name 0 1 en rfl rfl (by kernel_rfl) ?_
  refine k_absent ?_
  refine k_some ?_
  refine k_name 0 2 en rfl rfl (by kernel_rfl) ?_
  refine ⟨y, none, some (m / 4), rfl, rfl, ⟨_, by omega, rfl⟩, fun _ _ => Nat.zero_le _, by omega, ?_⟩
  refine k_str [92] (by kernel_rfl) ?_
  refine k_sadd (by simp [cutS]; omega) ?_
  refine k_sslice ?_
  refine k_name 0 1 en rfl rfl (by kernel_rfl) ?_
  refine k_some ?_
  refine k_name 0 2 en rfl rfl (by kernel_rfl) ?_
  refine k_absent ?_
  refine ⟨y, some (m / 4), none, rfl, ⟨_, by omega, rfl⟩, rfl, fun _ e => (nomatch e), by omega, ?_⟩
  refine k_sadd (by simp [cutS]; omega) ?_
  refine k_store 0 3 en rfl (by kernel_rfl) ?_
  refine k_If ?_
  refine k_tCompare ?_
  refine k_BinOp ?_
  refine k_name 0 0 en rfl rfl (by kernel_rfl) ?_
  refine k_int ?_
  refine k_mod (by first | with_reducible assumption | decide | omega) ?_
  refine k_int ?_
  refine k_eq ?_
  refine k_tb ?_
  refine ⟨fun q => ?_, fun q => ?_⟩
  · refine k_Return ?_
    refine k_BinOp ?_
    refine k_BinOp ?_
    refine k_str [34] (by kernel_rfl) ?_
    refine k_name 0 3 en rfl rfl (by kernel_rfl) ?_
    refine k_sadd (by simp [cutS]; omega) ?_
    refine k_str [34] (by kernel_rfl) ?_
    refine k_sadd (by simp [cutS]; omega) ?_
    refine hR _ _ _ (.drop .refl) ?_
    have : m % 4 = 3 := by have := eq_of_beq q; omega
    simpa [written, this] using h
  · refine k_nil ?_
    refine nx_next ?_
    refine k_Return ?_
    refine k_BinOp ?_
    refine k_name 0 3 en rfl rfl (by kernel_rfl) ?_
    refine k_Subscript ?_
    refine k_str [10, 9, 32] (by kernel_rfl) ?_
    refine k_BinOp ?_
    refine k_name 0 0 en rfl rfl (by kernel_rfl) ?_
    refine k_int ?_
    refine k_mod (by first | with_reducible assumption | decide | omega) ?_
    have h4 : m % 4 ≠ 3 := fun e => by
      have : ((m : Int) % 4 == 3) = true := by simp; omega
      rw [this] at q; cases q
    refine k_sitem (by omega) (by omega) (sep_at (by omega)) ?_
    refine k_sadd (by simp [cutS]; omega) ?_
    refine hR _ _ _ (.drop .refl) ?_
    simpa [written, h4] using h
end
section
variable {G : Gr} {w : World} {l : List Ent} {n : Nat} {KV : Pt → List Ent → Prop}
theorem s_ninit {x dx : Addr} {y : List Nat} (B : Bx G w 1) (h : ∀ sa, KV .none ((sa, lst []) :: (x, inst 40 dx [some (.str y), some (.int 0), some (.ref sa)]) :: (dx, dicP []) :: l)) : WK B ((x, inst 40 dx []) :: (dx, dicP []) :: l) (.ref 36) [.ref x, .str y] KV := by
  refine k_enterK (fd := f36) (body := fBody (cst 4 1)) (by kernel_rfl) (by kernel_rfl) (by kernel_rfl) (by kernel_rfl) (by kernel_rfl) (by kernel_rfl) (by kernel_rfl) (bind2 (x := "self") (y := "node") fun v u => by kernel_rfl) fun L env B KF en hR hN => ?_
  refine k_AssignAttr ?_
  refine k_name 0 0 en rfl rfl (by kernel_rfl) ?_
  refine k_name 0 1 en rfl rfl (by kernel_rfl) ?_
  refine k_setS 41 1 0 2 0 rfl rfl rfl (by kernel_rfl) ?_
  refine k_AssignAttr ?_
  refine k_int ?_
  refine k_name 0 1 en rfl rfl (by kernel_rfl) ?_
  refine k_setS 42 1 1 2 0 rfl rfl rfl (by kernel_rfl) ?_
  refine k_AssignAttr ?_
  refine k_List ?_
  refine k_items_nil ?_
  refine ⟨Nat.le_of_ble_eq_true rfl, fun a => ?_⟩
  refine k_name 1 1 en rfl rfl (by kernel_rfl) ?_
  refine k_setS 43 2 2 3 1 rfl rfl rfl (by kernel_rfl) ?_
  refine k_nil ?_
  exact hN _ _ (.keep .head (.drop .refl)) (h a)
end
section
variable {G : Gr} {w : World} {l : List Ent} {n : Nat} {KV : Pt → List Ent → Prop}
theorem s_active {S D n2 ra : Addr} {po nf : Int} {ys : List (List Nat)} (B : Bx G w 1) (hz : ys.length ≤ 1000)
    (h : KV (.bool (decide (nf < po) || !ys.isEmpty)) ((S, inst 137 D []) :: (D, dicP (sorD n2 (.ref ra) po nf)) :: (ra, lst (ys.map Pt.str)) :: l)) :
    WC B ((S, inst 137 D []) :: (D, dicP (sorD n2 (.ref ra) po nf)) :: (ra, lst (ys.map Pt.str)) :: l) (.ref 106) [.ref S] KV := by
  refine k_enter (fd := f106) (body := fBody (cst 6 5)) (by kernel_rfl) (by kernel_rfl) (by kernel_rfl) (by kernel_rfl) (by kernel_rfl) (by kernel_rfl) (by kernel_rfl) (bind1 (x := "self") fun v => by kernel_rfl) fun L env B KF en hR hN => ?_
  refine k_If ?_
  refine k_tCompare ?_
  refine k_Attr ?_
  refine k_name 0 0 en rfl rfl (by kernel_rfl) ?_
  refine k_getD 1 1 2 rfl rfl rfl (by kernel_rfl) ?_
  refine k_none ?_
  refine k_is (by rfl) ?_
  refine k_tb ?_
  refine ⟨fun e => Bool.noConfusion (show false = true from e), fun _ => ?_⟩
  refine k_nil ?_
  refine nx_next ?_
  refine k_Return ?_
  refine k_Or2 ?_
  refine k_Compare ?_
  refine k_Attr ?_
  refine k_name 0 0 en rfl rfl (by kernel_rfl) ?_
  refine k_getD 1 3 2 rfl rfl rfl (by kernel_rfl) ?_
  refine k_Attr ?_
  refine k_name 0 0 en rfl rfl (by kernel_rfl) ?_
  refine k_getD 1 2 2 rfl rfl rfl (by kernel_rfl) ?_
  refine k_lt ?_
  refine k_tb ?_
  refine ⟨fun q => ?_, fun q => ?_⟩
  · have e : (decide (nf < po) || !ys.isEmpty) = true := by rw [q]; rfl
    rw [e] at h
    exact hR _ _ _ (.drop .refl) (by rw [q]; exact h)
  · refine k_tcall (T := "bool") en (by kernel_rfl) (by kernel_rfl) (by kernel_rfl) ?_
    refine k_items_cons ?_
    refine k_Attr ?_
    refine k_name 0 0 en rfl rfl (by kernel_rfl) ?_
    refine k_getD 1 1 2 rfl rfl rfl (by kernel_rfl) ?_
    refine k_items_nil ?_
    refine c_boolL 3 rfl (by first | decide | omega | (simp; omega) | exact Nat.le_of_ble_eq_true rfl | (simp; done)) ?_
    have e : (decide (nf < po) || !ys.isEmpty) = !ys.isEmpty := by rw [q]; rfl
    rw [e] at h
    exact hR _ _ _ (.drop .refl) (by rw [List.isEmpty_map]; exact h)
end
noncomputable def outN (ds : List Nd) (ys : List (List Nat)) : List Nd := ys.foldl (fun ds y => setN ds y (setNp (-1))) ds
theorem outN_names (ds : List Nd) : ∀ ys, names (outN ds ys) = names ds := by
  intro ys
  induction ys generalizing ds with
  | nil => rfl
  | cons y r ih => exact (ih _).trans (setN_names fun _ => rfl)
theorem outN_places (ds : List Nd) : ∀ ys, places (outN ds ys) = places ds := by
  intro ys
  induction ys generalizing ds with
  | nil => rfl
  | cons y r ih => exact (ih _).trans (setN_places fun _ => ⟨rfl, rfl⟩)
theorem outN_take {ds : List Nd} {ys : List (List Nat)} {k : Nat} {y : List Nat} (h : ys[k]? = some y) : outN ds (ys.take (k + 1)) = setN (outN ds (ys.take k)) y (setNp (-1)) := by
  unfold outN
  rw [List.take_add_one, h, List.foldl_append]
  rfl
section
variable {G : Gr} {w : World} {l : List Ent} {n : Nat} {KV : Pt → List Ent → Prop}
theorem s_getready {S D n2 ra : Addr} {po nf : Int} {ys : List (List Nat)} {ds : List Nd} (B : Bx G w 1) (hz : ys.length ≤ 1000) (hnd : (names ds).Nodup) (hys : ∀ y ∈ ys, y ∈ names ds)
    (h : ∀ ta, KV (.ref ta) ((ta, tup (ys.map Pt.str)) :: (S, inst 137 D []) :: (D, dicP (sorD n2 (.ref ra) (po + ys.length) nf)) :: (ra, lst []) :: (n2, dct w (places ds)) :: ((outN ds ys).flatMap nodeL ++ l))) :
    WC B ((S, inst 137 D []) :: (D, dicP (sorD n2 (.ref ra) po nf)) :: (ra, lst (ys.map Pt.str)) :: (n2, dct w (places ds)) :: (ds.flatMap nodeL ++ l)) (.ref 99) [.ref S] KV := by
  refine k_enter (fd := f99) (body := fBody (cst 6 4)) (by kernel_rfl) (by kernel_rfl) (by kernel_rfl) (by kernel_rfl) (by kernel_rfl) (by kernel_rfl) (by kernel_rfl) (bind1 (x := "self") fun v => by kernel_rfl) fun L env B KF en hR hN => ?_
  refine k_If ?_
  refine k_tCompare ?_
  refine k_Attr ?_
  refine k_name 0 0 en rfl rfl (by kernel_rfl) ?_
  refine k_getD 1 1 2 rfl rfl rfl (by kernel_rfl) ?_
  refine k_none ?_
  refine k_is (by rfl) ?_
  refine k_tb ?_
  refine ⟨fun e => Bool.noConfusion (show false = true from e), fun _ => ?_⟩
  refine k_nil ?_
  refine nx_next ?_
  refine k_Assign ?_
  refine k_tcall (T := "tuple") en (by kernel_rfl) (by kernel_rfl) (by kernel_rfl) ?_
  refine k_items_cons ?_
  refine k_Attr ?_
  refine k_name 0 0 en rfl rfl (by kernel_rfl) ?_
  refine k_getD 1 1 2 rfl rfl rfl (by kernel_rfl) ?_
  refine k_items_nil ?_
  refine c_tupleL 3 rfl (by first | decide | omega | (simp; omega) | exact Nat.le_of_ble_eq_true rfl | (simp; done)) fun a => ?_
  refine k_store 1 1 en rfl (by kernel_rfl) ?_
  refine k_Assign ?_
  refine k_Attr ?_
  refine k_name 1 0 en rfl rfl (by kernel_rfl) ?_
  refine k_getD 2 0 3 rfl rfl rfl (by kernel_rfl) ?_
  refine k_store 1 2 en rfl (by kernel_rfl) ?_
  refine k_forS (α := Unit) (ys.map Pt.str).length (fun k => ti a k) (fun k p => (ys.map Pt.str)[k]? = some p) (fun _ _ => True)
    (fun k _ => (L, nsP [bd "self" (.ref S), bd "result" (.ref a), bd "n2i" (.ref n2), ("node", none)]) :: (a, tup (ys.map Pt.str)) :: (S, inst 137 D []) :: (D, dicP (sorD n2 (.ref ra) po nf)) :: (ra, lst (ys.map Pt.str)) :: (n2, dct w (places ds)) :: ((outN ds (ys.take k)).flatMap nodeL ++ l)) ?_ (fun it => src_tup (a := a) fun k l' h => by obtain ⟨_, _, rfl⟩ := h; exact .tail .head) ?_ ?_
  · refine k_name 1 1 en rfl rfl (by kernel_rfl) ?_
    refine k_iterT 0 rfl fun it => ?_
    refine ⟨it, (), rfl, trivial, ?_⟩
    exact imw 2 1 rfl rfl (Wk.w (.keep (.keep (.keep (.new .refl))))) (imx 7 417753469056 7 rfl (by kernel_rfl))
  · intro it k _ p KF' hk _ hp hN' _ hR'
    obtain ⟨y, hy, rfl⟩ := str_at hp
    have hm : y ∈ names ds := hys _ (List.mem_of_getElem? hy)
    obtain ⟨d, rest, hf⟩ := foc (ds := outN ds (ys.take k)) (y := y) (by rw [outN_names]; exact hnd) (by rw [outN_names]; exact hm)
    have ha := hf.at_
    rw [outN_places] at ha
    refine WU1.im (.tl (.tl (.tl (.tl (.tl (.tl (.tl (.perm (hf.to _) .refl)))))))) ?_
    refine k_asgN ?_
    refine k_store 1 3 en rfl (by kernel_rfl) ?_
    refine k_AssignAttr ?_
    refine k_global (v := .int (-1) 197) en (by kernel_rfl) okI (by kernel_rfl) ?_
    refine k_Subscript ?_
    refine k_name 1 2 en rfl rfl (by kernel_rfl) ?_
    refine k_name 1 3 en rfl rfl (by kernel_rfl) ?_
    refine k_dget 6 rfl (by assumption) ?_
    refine k_setS 42 7 1 8 1 rfl rfl rfl (by kernel_rfl) ?_
    refine k_nil ?_
    refine (hN' _ () trivial ?_).1
    rw [outN_take hy]
    refine imw 1 1 rfl rfl (Wk.w (.keep (.keep (.keep (.forget .refl))))) (imxk 7 417753473088 7 rfl (by kernel_rfl) ?_)
    exact .perm (hf.back (setNp (-1)) _) .refl
  · intro _ _
    refine k_nil ?_
    refine nx_next ?_
    refine k_Expr en (by kernel_rfl) ?_
    refine k_lmeth PySem.F.slot_list_clear PySem.F.type_list_clear ?_
    refine k_Attr ?_
    refine k_name 0 0 en rfl rfl (by kernel_rfl) ?_
    refine k_getD 2 1 3 rfl rfl rfl (by kernel_rfl) ?_
    refine qm 4 rfl ?_
    refine k_meth0 ?_
    refine c_clear 4 rfl (by first | decide | omega | (simp; omega) | exact Nat.le_of_ble_eq_true rfl | (simp; done)) ?_
    refine ⟨rfl, ?_⟩
    refine k_AugAttr ?_
    refine k_name 0 0 en rfl rfl (by kernel_rfl) ?_
    refine k_getD 2 2 3 rfl rfl rfl (by kernel_rfl) ?_
    refine k_bcall (id := "len") en (by kernel_rfl) (by kernel_rfl) (by kernel_rfl) ?_
    refine k_items_cons ?_
    refine k_name 0 1 en rfl rfl (by kernel_rfl) ?_
    refine k_items_nil ?_
    refine c_lenT 1 rfl (by first | decide | omega | (simp; omega) | exact Nat.le_of_ble_eq_true rfl | (simp; done)) ?_
    refine k_iadd ?_
    refine k_setD 2 2 3 (Nat.le_of_ble_eq_true rfl) rfl rfl (by kernel_rfl) ?_
    refine k_Return ?_
    refine k_name 0 1 en rfl rfl (by kernel_rfl) ?_
    refine hR _ _ _ ?_ (h a)
    rw [List.length_map, List.take_length]
    exact imx 5 84947073 6 rfl (by kernel_rfl)
end
section
variable {G : Gr} {w : World} {l : List Ent} {n : Nat} {KV : Pt → List Ent → Prop}
theorem s_done {S D n2 ra : Addr} {po nf : Int} {rd ys : List Word} {ds : List Nd} (B : Bx G w 1) (hz : ys.length ≤ 100) (hr : rd.length ≤ 100000) (hnd : (names ds).Nodup) (hys : ∀ y ∈ ys, y ∈ names ds)
    (hsc : ∀ y, (succOf ds y).length ≤ 100 ∧ ∀ s ∈ succOf ds y, s ∈ names ds) (hnp : ∀ k y, ys[k]? = some y → npOf (doneAll (ds, rd) (ys.take k)).1 y = -1)
    (h : ∀ ta, KV .none ((ta, tup (ys.map Pt.str)) :: (S, inst 137 D []) :: (D, dicP (sorD n2 (.ref ra) po (nf + ys.length))) :: (ra, lst ((doneAll (ds, rd) ys).2.map Pt.str)) :: (n2, dct w (places ds)) :: ((doneAll (ds, rd) ys).1.flatMap nodeL ++ l))) :
    WK B ((S, inst 137 D []) :: (D, dicP (sorD n2 (.ref ra) po nf)) :: (ra, lst (rd.map Pt.str)) :: (n2, dct w (places ds)) :: (ds.flatMap nodeL ++ l)) (.ref 120) ([.ref S] ++ ys.map Pt.str) KV := by
  refine k_enterVK (fd := f120) (names := ["self"]) (nm := "nodes") (loc := [bd "self" (.ref S)]) (body := fBody (cst 6 7)) (by kernel_rfl) (by kernel_rfl) (by kernel_rfl) (by kernel_rfl) (by kernel_rfl) (by kernel_rfl) (by kernel_rfl) (by simp; omega)
    (fun vs us hv => by
      cases hv with | cons hp hv =>
      cases hv
      exact ⟨[_], bind_done _ _, rfl, .cons hp .nil⟩) fun ta L env B KF en hR hN => ?_
  refine k_If ?_
  refine k_tCompare ?_
  refine k_Attr ?_
  refine k_name 0 1 en rfl rfl (by kernel_rfl) ?_
  refine k_getD 2 1 3 rfl rfl rfl (by kernel_rfl) ?_
  refine k_none ?_
  refine k_is (by rfl) ?_
  refine k_tb ?_
  refine ⟨fun e => Bool.noConfusion (show false = true from e), fun _ => ?_⟩
  refine k_nil ?_
  refine nx_next ?_
  refine k_Assign ?_
  refine k_Attr ?_
  refine k_name 0 1 en rfl rfl (by kernel_rfl) ?_
  refine k_getD 2 0 3 rfl rfl rfl (by kernel_rfl) ?_
  refine k_store 0 2 en rfl (by kernel_rfl) ?_
  refine k_forS (α := Unit) (ys.map Pt.str).length (fun k => ti ta k) (fun k p => (ys.map Pt.str)[k]? = some p) (fun _ _ => True)
    (fun k _ => (L, nsP [bd "nodes" (.ref ta), bd "self" (.ref S), bd "n2i" (.ref n2), ("node", none), ("nodeinfo", none), ("stat", none), ("successor", none), ("successor_info", none)]) :: (ta, tup (ys.map Pt.str)) :: (S, inst 137 D []) :: (D, dicP (sorD n2 (.ref ra) po (nf + k))) ::
      (ra, lst ((doneAll (ds, rd) (ys.take k)).2.map Pt.str)) :: (n2, dct w (places ds)) :: ((doneAll (ds, rd) (ys.take k)).1.flatMap nodeL ++ l)) ?_ (fun it => src_tup (a := ta) fun k l' h => by obtain ⟨_, _, rfl⟩ := h; exact .tail .head) ?_ ?_
  · refine k_name 0 0 en rfl rfl (by kernel_rfl) ?_
    refine k_iterT 1 rfl fun it => ?_
    refine ⟨it, (), rfl, trivial, ?_⟩
    rw [show nf + ((0 : Nat) : Int) = nf by omega]
    exact imw 1 1 rfl rfl (Wk.w (.keep (.keep (.keep (.new (.new (.new (.new (.new .refl))))))))) (imx 7 417753473088 7 rfl (by kernel_rfl))
  · intro it k _ p KF' hk _ hp hN' _ hR'
    obtain ⟨y, hy, rfl⟩ := str_at hp
    have hnpk := hnp k y hy
    have hsh := doneAll_shape (ds, rd) (ys.take k)
    have hlen := doneAll_len (ds, rd) (fun y => (hsc y).1) (ys.take k)
    rw [List.length_take] at hlen
    dsimp only at hlen
    have htk := doneAll_take (x := (ds, rd)) hy
    have hsy := succ_shape hsh y
    have hks : k < ys.length := by rw [List.length_map] at hk; exact hk
    generalize doneAll (ds, rd) (ys.take k) = x at *
    obtain ⟨dk, rk⟩ := x
    dsimp only at *
    have hnk : (names dk).Nodup := by rw [names_shape hsh]; exact hnd
    have hm : y ∈ names dk := by rw [names_shape hsh]; exact hys _ (List.mem_of_getElem? hy)
    obtain ⟨d, rest, hf⟩ := foc hnk hm
    have ha := hf.at_
    rw [places_shape hsh] at ha
    have hd1 : d.np = -1 := by rw [← hf.np hnk]; exact hnpk
    refine WU1.im (.tl (.tl (.tl (.tl (.tl (.tl (.tl (.perm (hf.to _) .refl)))))))) ?_
    refine k_asgN ?_
    refine k_store 1 3 en rfl (by kernel_rfl) ?_
    refine k_If ?_
    refine k_tCompare ?_
    refine k_NamedExpr ?_
    refine k_dmeth PySem.F.slot_dict_get PySem.F.type_dict_get ?_
    refine k_name 1 2 en rfl rfl (by kernel_rfl) ?_
    refine qdm 6 rfl ?_
    refine k_meth1 ?_
    refine k_name 1 3 en rfl rfl (by kernel_rfl) ?_
    refine c_dgetS 6 rfl (by assumption) ?_
    refine k_store 1 4 en rfl (by kernel_rfl) ?_
    refine k_none ?_
    refine k_is (by rfl) ?_
    refine k_tb ?_
    refine ⟨fun e => Bool.noConfusion (show false = true from e), fun _ => ?_⟩
    refine k_nil ?_
    refine nx_next ?_
    refine k_Assign ?_
    refine k_Attr ?_
    refine k_name 1 4 en rfl rfl (by kernel_rfl) ?_
    refine k_getS 42 7 1 8 rfl rfl rfl (by kernel_rfl) ?_
    refine k_store 1 5 en rfl (by kernel_rfl) ?_
    refine k_If ?_
    refine k_tCompare ?_
    refine k_name 1 5 en rfl rfl (by kernel_rfl) ?_
    refine k_global (v := .int (-1) 197) en (by kernel_rfl) okI (by kernel_rfl) ?_
    refine k_ne ?_
    refine k_tb ?_
    refine and_f (ne_f hd1) ?_
    refine k_nil ?_
    refine nx_next ?_
    refine k_AssignAttr ?_
    refine k_global (v := .int (-2) 200) en (by kernel_rfl) okI (by kernel_rfl) ?_
    refine k_name 1 4 en rfl rfl (by kernel_rfl) ?_
    refine k_setS 42 7 1 8 1 rfl rfl rfl (by kernel_rfl) ?_
    refine k_forS (α := Unit) (d.succ.map Pt.str).length (fun j => li d.sa j) (fun j p => (d.succ.map Pt.str)[j]? = some p) (fun _ _ => True)
      (fun j _ => (L, nsP [bd "nodes" (.ref ta), bd "self" (.ref S), bd "n2i" (.ref n2), ("node", none), ("nodeinfo", none), ("stat", none), ("successor", none), ("successor_info", none)]) :: (it, ti ta (k + 1)) :: (ta, tup (ys.map Pt.str)) :: (S, inst 137 D []) :: (D, dicP (sorD n2 (.ref ra) po (nf + k))) ::
        (ra, lst (((d.succ.take j).foldl decS (setN dk y (setNp (-2)), rk)).2.map Pt.str)) :: (n2, dct w (places ds)) :: (((d.succ.take j).foldl decS (setN dk y (setNp (-2)), rk)).1.flatMap nodeL ++ l)) ?_
      (fun it2 => src_list (a := d.sa) fun j l' h => by obtain ⟨_, _, rfl⟩ := h; exact ((has_succS ((decs_shape _ _).trans (setN_shape (f := setNp (-2)) fun _ => rfl)) hf.mem l).right [_, _, _, _, _, _, _])) ?_ ?_
    · refine k_Attr ?_
      refine k_name 1 4 en rfl rfl (by kernel_rfl) ?_
      refine k_getS 43 7 2 8 rfl rfl rfl (by kernel_rfl) ?_
      refine k_iterL 9 rfl fun it => ?_
      refine ⟨it, (), rfl, trivial, ?_⟩
      refine imw 2 1 rfl rfl (Wk.w (.keep (.keep (.keep (.forget (.forget (.forget .refl))))))) (imxk 8 31204079046784 8 rfl (by kernel_rfl) ?_)
      exact .perm (hf.back (setNp (-2)) _) .refl
    · intro it2 j _ p KF2 hj _ hp2 hN2 _ hR2
      obtain ⟨z, hz2, rfl⟩ := str_at hp2
      have hst := decs_take (x := (setN dk y (setNp (-2)), rk)) hz2
      have hs2 : shape ((d.succ.take j).foldl decS (setN dk y (setNp (-2)), rk)).1 = shape dk := (decs_shape _ _).trans (setN_shape (f := setNp (-2)) fun _ => rfl)
      have hl2 := decs_len (setN dk y (setNp (-2)), rk) (d.succ.take j)
      have hdl : d.succ.length ≤ 100 := by rw [← hf.succ hnk, hsy]; exact (hsc y).1
      have hzm : z ∈ names ds := (hsc y).2 z (by rw [← hsy, hf.succ hnk]; exact List.mem_of_getElem? hz2)
      rw [List.length_take] at hl2
      dsimp only at hl2
      generalize (d.succ.take j).foldl decS (setN dk y (setNp (-2)), rk) = x at *
      obtain ⟨dj, rj⟩ := x
      dsimp only at *
      have hnj : (names dj).Nodup := by rw [names_shape hs2]; exact hnk
      obtain ⟨d2, rest2, hf2⟩ := foc hnj (y := z) (by rw [names_shape hs2, names_shape hsh]; exact hzm)
      have ha2 := hf2.at_
      rw [places_shape hs2, places_shape hsh] at ha2
      refine WU1.im (.tl (.tl (.tl (.tl (.tl (.tl (.tl (.tl (.perm (hf2.to _) .refl))))))))) ?_
      refine k_asgN ?_
      refine k_store 1 6 en rfl (by kernel_rfl) ?_
      refine k_Assign ?_
      refine k_Subscript ?_
      refine k_name 1 2 en rfl rfl (by kernel_rfl) ?_
      refine k_name 1 6 en rfl rfl (by kernel_rfl) ?_
      refine k_dget 7 rfl (by assumption) ?_
      refine k_store 1 7 en rfl (by kernel_rfl) ?_
      refine k_AugAttr ?_
      refine k_name 1 7 en rfl rfl (by kernel_rfl) ?_
      refine k_getS 42 8 1 9 rfl rfl rfl (by kernel_rfl) ?_
      refine k_int ?_
      refine k_isub ?_
      refine k_setS 42 8 1 9 1 rfl rfl rfl (by kernel_rfl) ?_
      refine k_If ?_
      refine k_tCompare ?_
      refine k_Attr ?_
      refine k_name 1 7 en rfl rfl (by kernel_rfl) ?_
      refine k_getS 42 8 1 9 rfl rfl rfl (by kernel_rfl) ?_
      refine k_int ?_
      refine k_eq ?_
      refine k_tb ?_
      have hnp2 : npOf dj z = d2.np := hf2.np hnj
      refine ⟨fun q => ?_, fun q => ?_⟩
      · refine k_Expr en (by kernel_rfl) ?_
        refine k_append ?_
        refine k_Attr ?_
        refine k_name 1 1 en rfl rfl (by kernel_rfl) ?_
        refine k_getD 4 1 5 rfl rfl rfl (by kernel_rfl) ?_
        refine qm 6 rfl ?_
        refine k_meth1 ?_
        refine k_name 1 6 en rfl rfl (by kernel_rfl) ?_
        refine c_append 6 rfl (by first | decide | omega | (simp; omega) | exact Nat.le_of_ble_eq_true rfl | (simp; done)) ?_
        refine ⟨rfl, ?_⟩
        refine k_nil ?_
        refine nx_next ?_
        refine k_nil ?_
        refine (hN2 _ () trivial ?_).1
        rw [hst, show decS (dj, rj) z = (setN dj z decNp, rj ++ [z]) by unfold decS; rw [hnp2, if_pos (eq_of_beq q)], List.map_append]
        refine imw 1 1 rfl rfl (Wk.w (.keep (.keep (.keep (.keep (.keep (.keep (.forget (.forget .refl))))))))) (imxk 8 31204079050816 8 rfl (by kernel_rfl) ?_)
        exact .perm (hf2.back decNp _) .refl
      · refine k_nil ?_
        refine nx_next ?_
        refine k_nil ?_
        refine (hN2 _ () trivial ?_).1
        rw [hst, show decS (dj, rj) z = (setN dj z decNp, rj) by unfold decS; rw [hnp2, if_neg (ne_of_beq_false q)]]
        refine imw 1 1 rfl rfl (Wk.w (.keep (.keep (.keep (.keep (.keep (.keep (.forget (.forget .refl))))))))) (imxk 8 31204079050816 8 rfl (by kernel_rfl) ?_)
        exact .perm (hf2.back decNp _) .refl
    · intro _ _
      refine k_nil ?_
      refine nx_next ?_
      refine k_AugAttr ?_
      refine k_name 0 1 en rfl rfl (by kernel_rfl) ?_
      refine k_getD 3 3 4 rfl rfl rfl (by kernel_rfl) ?_
      refine k_int ?_
      refine k_iadd ?_
      refine k_setD 3 3 4 (Nat.le_of_ble_eq_true rfl) rfl rfl (by kernel_rfl) ?_
      refine k_nil ?_
      refine (hN' _ () trivial ?_).1
      rw [htk, List.length_map, List.take_length, show doneS (dk, rk) y = d.succ.foldl decS (setN dk y (setNp (-2)), rk) by unfold doneS; rw [hf.succ hnk]]
      rw [show nf + ((k + 1 : Nat) : Int) = nf + k + 1 by omega]
      exact imx 7 417753473025 7 rfl (by kernel_rfl)
  · intro _ _
    refine k_nil ?_
    refine nx_next ?_
    refine k_nil ?_
    refine hN _ _ ?_ (h ta)
    rw [List.length_map, List.take_length]
    exact imx 5 84947073 6 rfl (by kernel_rfl)
end
section
variable {G : Gr} {w : World} {l : List Ent} {n : Nat} {KV : Pt → List Ent → Prop}
theorem s_getold {S D n2 : Addr} {rd : Pt} {po nf : Int} {ks : List (Word × Pt)} {y : Word} {a : Addr} (B : Bx G w 3) (hv : atK ks y = some (.ref a))
    (h : KV (.ref a) ((S, inst 137 D []) :: (D, dicP (sorD n2 rd po nf)) :: (n2, dct w ks) :: l)) :
    WC B ((S, inst 137 D []) :: (D, dicP (sorD n2 rd po nf)) :: (n2, dct w ks) :: l) (.ref 80) [.ref S, .str y] KV := by
  refine k_enter (fd := f80) (body := fBody (cst 6 1)) (by kernel_rfl) (by kernel_rfl) (by kernel_rfl) (by kernel_rfl) (by kernel_rfl) (by kernel_rfl) (by kernel_rfl) (bind2 (x := "self") (y := "node") fun v u => by kernel_rfl) fun L env B KF en hR hN => ?_
  refine k_If ?_
  refine k_tCompare ?_
  refine k_NamedExpr ?_
  refine k_dmeth PySem.F.slot_dict_get PySem.F.type_dict_get ?_
  refine k_Attr ?_
  refine k_name 0 1 en rfl rfl (by kernel_rfl) ?_
  refine k_getD 1 0 2 rfl rfl rfl (by kernel_rfl) ?_
  refine qdm 3 rfl ?_
  refine k_meth1 ?_
  refine k_name 0 0 en rfl rfl (by kernel_rfl) ?_
  refine c_dgetS 3 rfl (by assumption) ?_
  refine k_store 0 2 en rfl (by kernel_rfl) ?_
  refine k_none ?_
  refine k_is (by rfl) ?_
  refine k_tb ?_
  refine ⟨fun e => Bool.noConfusion (show false = true from e), fun _ => ?_⟩
  refine k_nil ?_
  refine nx_next ?_
  refine k_Return ?_
  refine k_name 0 2 en rfl rfl (by kernel_rfl) ?_
  exact hR _ _ _ (.drop .refl) h
theorem s_getnew {S D n2 : Addr} {rd : Pt} {po nf : Int} {ks : List (Word × Pt)} {y : Word} (B : Bx G w 3) (hz : ks.length ≤ 1000) (hv : atK ks y = none)
    (h : ∀ a dx sa, KV (.ref a) ((S, inst 137 D []) :: (D, dicP (sorD n2 rd po nf)) :: (n2, dct w (putK ks y (.ref a))) :: (nodeL ⟨a, dx, sa, y, 0, []⟩ ++ l))) :
    WC B ((S, inst 137 D []) :: (D, dicP (sorD n2 rd po nf)) :: (n2, dct w ks) :: l) (.ref 80) [.ref S, .str y] KV := by
  refine k_enter (fd := f80) (body := fBody (cst 6 1)) (by kernel_rfl) (by kernel_rfl) (by kernel_rfl) (by kernel_rfl) (by kernel_rfl) (by kernel_rfl) (by kernel_rfl) (bind2 (x := "self") (y := "node") fun v u => by kernel_rfl) fun L env B KF en hR hN => ?_
  refine k_If ?_
  refine k_tCompare ?_
  refine k_NamedExpr ?_
  refine k_dmeth PySem.F.slot_dict_get PySem.F.type_dict_get ?_
  refine k_Attr ?_
  refine k_name 0 1 en rfl rfl (by kernel_rfl) ?_
  refine k_getD 1 0 2 rfl rfl rfl (by kernel_rfl) ?_
  refine qdm 3 rfl ?_
  refine k_meth1 ?_
  refine k_name 0 0 en rfl rfl (by kernel_rfl) ?_
  refine c_dgetN 3 rfl (by assumption) ?_
  refine k_store 0 2 en rfl (by kernel_rfl) ?_
  refine k_none ?_
  refine k_is (by rfl) ?_
  refine k_tb ?_
  refine ⟨fun _ => ?_, fun e => Bool.noConfusion (show true = false from e)⟩
  refine k_Assign2 ?_
  refine k_ccall (C := 40) en (by kernel_rfl) (by kernel_rfl) (by kernel_rfl) ?_
  refine k_items_cons ?_
  refine k_name 0 0 en rfl rfl (by kernel_rfl) ?_
  refine k_items_nil ?_
  refine c_make (fI := 36) (by kernel_rfl) (by kernel_rfl) (by kernel_rfl) fun B' x dx => ?_
  refine s_ninit B' fun sa => ?_
  refine ⟨rfl, ?_⟩
  refine k_asgS ?_
  refine k_Attr ?_
  refine k_name 3 1 en rfl rfl (by kernel_rfl) ?_
  refine k_getD 4 0 5 rfl rfl rfl (by kernel_rfl) ?_
  refine k_name 3 0 en rfl rfl (by kernel_rfl) ?_
  refine k_dset 6 rfl (by first | decide | omega | (simp; omega) | exact Nat.le_of_ble_eq_true rfl | (simp; done)) ?_
  refine k_asgN ?_
  refine k_store 3 2 en rfl (by kernel_rfl) ?_
  refine k_nil ?_
  refine nx_next ?_
  refine k_Return ?_
  refine k_name 3 2 en rfl rfl (by kernel_rfl) ?_
  refine hR _ _ _ ?_ (h x dx sa)
  exact imx 6 33841476 7 rfl (by kernel_rfl)
end
section
variable {G : Gr} {w : World} {l : List Ent} {n : Nat} {KV : Pt → List Ent → Prop}
theorem s_addnew {S D n2 : Addr} {po nf : Int} {ds : List Nd} {y : Word} (B : Bx G w 4) (hz : ds.length ≤ 1000) (hy : y ∉ names ds)
    (h : ∀ a dx sa, KV .none ((S, inst 137 D []) :: (D, dicP (sorD n2 .none po nf)) :: (n2, dct w (places (ds ++ [Nd.mk a dx sa y 0 []]))) :: ((ds ++ [Nd.mk a dx sa y 0 []]).flatMap nodeL ++ l))) :
    WK B ((S, inst 137 D []) :: (D, dicP (sorD n2 .none po nf)) :: (n2, dct w (places ds)) :: (ds.flatMap nodeL ++ l)) (.ref 87) ([.ref S, .str y] ++ []) KV := by
  refine k_enterVK (fd := f87) (names := ["node", "self"]) (nm := "predecessors") (loc := [bd "node" (.str y), bd "self" (.ref S)]) (body := fBody (cst 6 2)) (by kernel_rfl) (by kernel_rfl) (by kernel_rfl) (by kernel_rfl) (by kernel_rfl) (by kernel_rfl) (by kernel_rfl) (by simp)
    (fun vs us hv => by
      cases hv with | cons hp hv =>
      cases hv with | cons hq hv =>
      cases hv
      exact ⟨[_, _], bind_add _ _ _, rfl, .cons hq (.cons hp .nil)⟩) fun ta L env B KF en hR hN => ?_
  have ha := atK_none hy
  refine k_If ?_
  refine k_tCompare ?_
  refine k_Attr ?_
  refine k_name 0 2 en rfl rfl (by kernel_rfl) ?_
  refine k_getD 2 1 3 rfl rfl rfl (by kernel_rfl) ?_
  refine k_none ?_
  refine k_isnot (by rfl) ?_
  refine k_tb ?_
  refine ⟨fun e => Bool.noConfusion (show false = true from e), fun _ => ?_⟩
  refine k_nil ?_
  refine nx_next ?_
  refine k_Assign ?_
  refine k_imeth (f := 80) (fd := f80) ?_
  refine k_name 0 2 en rfl rfl (by kernel_rfl) ?_
  refine qim 2 3 rfl rfl (by kernel_rfl) (by kernel_rfl) (by kernel_rfl) ?_
  refine k_items_cons ?_
  refine k_name 0 1 en rfl rfl (by kernel_rfl) ?_
  refine k_items_nil ?_
  refine WC.im (.keep (.tail (.tail .head)) (.keep (.tail (.tail .head)) (.keep (.tail (.tail .head)) .refl))) (s_getnew (B.le (by decide)) (by unfold places; rw [List.length_map]; exact hz) ha ?_)
  intro a dx sa
  refine k_store 6 3 en rfl (by kernel_rfl) ?_
  refine k_AugAttr ?_
  refine k_name 6 3 en rfl rfl (by kernel_rfl) ?_
  refine k_getS 42 3 1 4 rfl rfl rfl (by kernel_rfl) ?_
  refine k_bcall (id := "len") en (by kernel_rfl) (by kernel_rfl) (by kernel_rfl) ?_
  refine k_items_cons ?_
  refine k_name 6 0 en rfl rfl (by kernel_rfl) ?_
  refine k_items_nil ?_
  refine c_lenT 7 rfl (by first | decide | omega | (simp; omega) | exact Nat.le_of_ble_eq_true rfl | (simp; done)) ?_
  refine k_iadd ?_
  refine k_setS 42 3 1 4 6 rfl rfl rfl (by kernel_rfl) ?_
  refine k_forS (α := Unit) 0 (fun k => ti ta k) (fun k p => ([] : List Pt)[k]? = some p) (fun _ _ => True)
    (fun k _ => (S, inst 137 D []) :: (D, dicP (sorD n2 .none po nf)) :: (n2, dct w (putK (places ds) y (.ref a))) :: (L, nsP [bd "predecessors" (.ref ta), bd "node" (.str y), bd "self" (.ref S), bd "nodeinfo" (.ref a)]) :: (ta, tup []) :: (nodeL (Nd.mk a dx sa y 0 []) ++ (ds.flatMap nodeL ++ l))) ?_ (fun it => src_tup (vs := []) (a := ta) fun k l' h => by obtain ⟨_, _, rfl⟩ := h; exact .tail (.tail (.tail (.tail .head)))) ?_ ?_
  · refine k_name 6 0 en rfl rfl (by kernel_rfl) ?_
    refine k_iterT 7 rfl fun it => ?_
    refine ⟨it, (), rfl, trivial, ?_⟩
    exact imx 9 1711123678896192 9 rfl (by kernel_rfl)
  · intro it j _ p KF2 hj
    exact absurd hj (Nat.not_lt_zero _)
  · intro _ _
    refine k_nil ?_
    refine nx_next ?_
    refine k_nil ?_
    refine hN _ _ ?_ (h a dx sa)
    rw [putK_new (d := Nd.mk a dx sa y 0 []) hy]
    refine imxk 3 8256 3 rfl (by kernel_rfl) ?_
    rw [List.flatMap_append, List.append_assoc]
    exact .drop (.drop (.perm (List.perm_append_comm_assoc ..) .refl))
theorem s_addold {S D n2 : Addr} {po nf : Int} {ds : List Nd} {y : Word} {zs : List Word} (B : Bx G w 4) (hz : zs.length ≤ 1000) (hnd : (names ds).Nodup) (hy : y ∈ names ds) (hzs : ∀ z ∈ zs, z ∈ names ds) (hsz : ∀ d ∈ ds, d.succ.length ≤ 1000)
    (h : KV .none ((S, inst 137 D []) :: (D, dicP (sorD n2 .none po nf)) :: (n2, dct w (places ds)) :: ((addP ds y zs).flatMap nodeL ++ l))) :
    WK B ((S, inst 137 D []) :: (D, dicP (sorD n2 .none po nf)) :: (n2, dct w (places ds)) :: (ds.flatMap nodeL ++ l)) (.ref 87) ([.ref S, .str y] ++ zs.map Pt.str) KV := by
  refine k_enterVK (fd := f87) (names := ["node", "self"]) (nm := "predecessors") (loc := [bd "node" (.str y), bd "self" (.ref S)]) (body := fBody (cst 6 2)) (by kernel_rfl) (by kernel_rfl) (by kernel_rfl) (by kernel_rfl) (by kernel_rfl) (by kernel_rfl) (by kernel_rfl) (by simp; omega)
    (fun vs us hv => by
      cases hv with | cons hp hv =>
      cases hv with | cons hq hv =>
      cases hv
      exact ⟨[_, _], bind_add _ _ _, rfl, .cons hq (.cons hp .nil)⟩) fun ta L env B KF en hR hN => ?_
  obtain ⟨d, rest, hf⟩ := foc hnd hy
  have ha := hf.at_
  refine .im (.tl (.tl (.tl (.tl (.tl (.perm (hf.to _) .refl)))))) ?_
  refine k_If ?_
  refine k_tCompare ?_
  refine k_Attr ?_
  refine k_name 0 2 en rfl rfl (by kernel_rfl) ?_
  refine k_getD 2 1 3 rfl rfl rfl (by kernel_rfl) ?_
  refine k_none ?_
  refine k_isnot (by rfl) ?_
  refine k_tb ?_
  refine ⟨fun e => Bool.noConfusion (show false = true from e), fun _ => ?_⟩
  refine k_nil ?_
  refine nx_next ?_
  refine k_Assign ?_
  refine k_imeth (f := 80) (fd := f80) ?_
  refine k_name 0 2 en rfl rfl (by kernel_rfl) ?_
  refine qim 2 3 rfl rfl (by kernel_rfl) (by kernel_rfl) (by kernel_rfl) ?_
  refine k_items_cons ?_
  refine k_name 0 1 en rfl rfl (by kernel_rfl) ?_
  refine k_items_nil ?_
  refine WC.im (.keep (.tail (.tail .head)) (.keep (.tail (.tail .head)) (.keep (.tail (.tail .head)) .refl))) (s_getold (B.le (by decide)) (by assumption) ?_)
  refine k_store 3 3 en rfl (by kernel_rfl) ?_
  refine k_AugAttr ?_
  refine k_name 3 3 en rfl rfl (by kernel_rfl) ?_
  refine k_getS 42 5 1 6 rfl rfl rfl (by kernel_rfl) ?_
  refine k_bcall (id := "len") en (by kernel_rfl) (by kernel_rfl) (by kernel_rfl) ?_
  refine k_items_cons ?_
  refine k_name 3 0 en rfl rfl (by kernel_rfl) ?_
  refine k_items_nil ?_
  refine c_lenT 4 rfl (by first | decide | omega | (simp; omega) | exact Nat.le_of_ble_eq_true rfl | (simp; done)) ?_
  refine k_iadd ?_
  refine k_setS 42 5 1 6 3 rfl rfl rfl (by kernel_rfl) ?_
  refine k_forS (α := Unit) (zs.map Pt.str).length (fun k => ti ta k) (fun k p => (zs.map Pt.str)[k]? = some p) (fun _ _ => True)
    (fun k _ => (S, inst 137 D []) :: (D, dicP (sorD n2 .none po nf)) :: (n2, dct w (places ds)) :: (L, nsP [bd "predecessors" (.ref ta), bd "node" (.str y), bd "self" (.ref S), ("nodeinfo", none), ("pred", none), ("pred_info", none)]) :: (ta, tup (zs.map Pt.str)) ::
      (((zs.take k).foldl (fun ds z => setN ds z (addSucc y)) (setN ds y (addNp zs.length))).flatMap nodeL ++ l)) ?_ (fun it => src_tup (a := ta) fun k l' h => by obtain ⟨_, _, rfl⟩ := h; exact .tail (.tail (.tail (.tail .head)))) ?_ ?_
  · refine k_name 3 0 en rfl rfl (by kernel_rfl) ?_
    refine k_iterT 4 rfl fun it => ?_
    refine ⟨it, (), rfl, trivial, ?_⟩
    rw [List.length_map]
    refine imw 4 4 rfl rfl (Wk.w (.keep (.keep (.keep (.forget (.new (.new .refl))))))) (imxk 6 5436612672 6 rfl (by kernel_rfl) ?_)
    exact .perm (hf.back (addNp zs.length) _) .refl
  · intro it j _ p KF2 hj _ hp hN2 _ hR2
    obtain ⟨z, hz2, rfl⟩ := str_at hp
    have hst := adds_take (y := y) (ds := setN ds y (addNp zs.length)) hz2
    have hnn : names ((zs.take j).foldl (fun ds z => setN ds z (addSucc y)) (setN ds y (addNp zs.length))) = names ds := (adds_names _ _ _).trans (setN_names fun _ => rfl)
    have hpl : places ((zs.take j).foldl (fun ds z => setN ds z (addSucc y)) (setN ds y (addNp zs.length))) = places ds := (adds_places _ _ _).trans (setN_places fun _ => ⟨rfl, rfl⟩)
    have hss := adds_len y (setN ds y (addNp zs.length)) (m := 1000) (fun d hd => setN_len (f := addNp zs.length) (fun _ => rfl) hsz d hd) (zs.take j)
    rw [List.length_take] at hss
    generalize (zs.take j).foldl (fun ds z => setN ds z (addSucc y)) (setN ds y (addNp zs.length)) = dj at *
    obtain ⟨d2, rest2, hf2⟩ := foc (ds := dj) (y := z) (by rw [hnn]; exact hnd) (by rw [hnn]; exact hzs z (List.mem_of_getElem? hz2))
    have ha2 := hf2.at_
    rw [hpl] at ha2
    have hd2 := hss d2 hf2.mem
    have hjz : j < zs.length := by rw [List.length_map] at hj; exact hj
    refine WU1.im (.tl (.tl (.tl (.tl (.tl (.tl (.perm (hf2.to _) .refl))))))) ?_
    refine k_asgN ?_
    refine k_store 4 4 en rfl (by kernel_rfl) ?_
    refine k_Assign ?_
    refine k_imeth (f := 80) (fd := f80) ?_
    refine k_name 4 2 en rfl rfl (by kernel_rfl) ?_
    refine qim 1 2 rfl rfl (by kernel_rfl) (by kernel_rfl) (by kernel_rfl) ?_
    refine k_items_cons ?_
    refine k_name 4 4 en rfl rfl (by kernel_rfl) ?_
    refine k_items_nil ?_
    refine WC.im (.keep (.tail .head) (.keep (.tail .head) (.keep (.tail .head) .refl))) (s_getold (B.le (by decide)) (by assumption) ?_)
    refine k_store 4 5 en rfl (by kernel_rfl) ?_
    refine k_Expr en (by kernel_rfl) ?_
    refine k_append ?_
    refine k_Attr ?_
    refine k_name 4 5 en rfl rfl (by kernel_rfl) ?_
    refine k_getS 43 6 2 7 rfl rfl rfl (by kernel_rfl) ?_
    refine qm 8 rfl ?_
    refine k_meth1 ?_
    refine k_name 4 1 en rfl rfl (by kernel_rfl) ?_
    refine c_append 8 rfl (by first | decide | omega | (simp; omega) | exact Nat.le_of_ble_eq_true rfl | (simp; done)) ?_
    refine ⟨rfl, ?_⟩
    refine k_nil ?_
    refine (hN2 _ () trivial ?_).1
    rw [hst, show d2.succ.map Pt.str ++ [Pt.str y] = (d2.succ ++ [y]).map Pt.str by rw [List.map_append]; rfl]
    refine imw 4 4 rfl rfl (Wk.w (.keep (.keep (.keep (.keep (.forget (.forget .refl))))))) (imxk 6 5436346371 6 rfl (by kernel_rfl) ?_)
    exact .perm (.trans (.of_eq (by rfl)) (hf2.back (addSucc y) l)) .refl
  · intro _ _
    refine k_nil ?_
    refine nx_next ?_
    refine k_nil ?_
    refine hN _ _ ?_ h
    rw [List.length_map, List.take_length]
    exact imx 3 8256 5 rfl (by kernel_rfl)
end
section
variable {G : Gr} {w : World} {l : List Ent} {n : Nat} {KV : Pt → List Ent → Prop}
theorem bind_tinit {s : Shared} (o : s.heap.get? 66 = some (k66 w.params)) (v : Value) : BindsTo s f73 ⟨[v], []⟩ [(Str.ofString "self", v), (Str.ofString "graph", .none)] := by
  refine BindsTo.of_defaults (T := 66) (by kernel_rfl) o (items := #[.none]) (n := 0) (by kernel_rfl) (by with_unfolding_all rfl) (by kernel_rfl)
theorem s_tinit {x dx : Addr} (B : Bx G w 3) (h : ∀ n2, KV .none ((x, inst 137 dx []) :: (dx, dicP (sorD n2 .none 0 0)) :: (n2, dct w []) :: l)) : WK B ((x, inst 137 dx []) :: (dx, dicP []) :: l) (.ref 73) [.ref x] KV := by
  refine k_enterB (fd := f73) (names := ["graph", "self"]) (R := fun lc l' => lc = [bd "graph" .none, bd "self" (.ref x)] ∧ l' = (x, inst 137 dx []) :: (dx, dicP []) :: l) (body := fBody (cst 6 0)) (by kernel_rfl) (by kernel_rfl) (by kernel_rfl) (by kernel_rfl) (by kernel_rfl) (by kernel_rfl) (by kernel_rfl)
    (fun vs hvs s F A Q E hQ => ?_) fun loc l₁ L env B KF hRR en hR hN => ?_
  · cases hvs with | cons hp hvs =>
    cases hvs
    exact bind_tinit (w := w) (F.base _ _ (B.bs.X _ _ (by kernel_rfl))) _ _ _ _ _ (hQ [(Str.ofString "graph", .none), (Str.ofString "self", _)] _ _ _ F rfl (.cons okNo (.cons hp .nil)) ⟨rfl, rfl⟩)
  · obtain ⟨rfl, rfl⟩ := hRR
    refine k_AssignAttr ?_
    refine k_Dict0 fun a => ?_
    refine k_name 1 1 en rfl rfl (by kernel_rfl) ?_
    refine k_setD 2 0 3 (Nat.le_of_ble_eq_true rfl) rfl rfl (by kernel_rfl) ?_
    refine k_AssignAttr ?_
    refine k_none ?_
    refine k_name 1 1 en rfl rfl (by kernel_rfl) ?_
    refine k_setD 2 1 3 (Nat.le_of_ble_eq_true rfl) rfl rfl (by kernel_rfl) ?_
    refine k_AssignAttr ?_
    refine k_int ?_
    refine k_name 1 1 en rfl rfl (by kernel_rfl) ?_
    refine k_setD 2 2 3 (Nat.le_of_ble_eq_true rfl) rfl rfl (by kernel_rfl) ?_
    refine k_AssignAttr ?_
    refine k_int ?_
    refine k_name 1 1 en rfl rfl (by kernel_rfl) ?_
    refine k_setD 2 3 3 (Nat.le_of_ble_eq_true rfl) rfl rfl (by kernel_rfl) ?_
    refine k_If ?_
    refine k_tCompare ?_
    refine k_name 1 0 en rfl rfl (by kernel_rfl) ?_
    refine k_none ?_
    refine k_isnot (by rfl) ?_
    refine k_tb ?_
    refine ⟨fun e => Bool.noConfusion (show false = true from e), fun _ => ?_⟩
    refine k_nil ?_
    refine nx_next ?_
    refine k_nil ?_
    refine hN _ _ ?_ (h a)
    exact imx 3 194 4 rfl (by kernel_rfl)
theorem s_tmake (B : Bx G w 5) (h : ∀ x dx n2, KV (.ref x) ((x, inst 137 dx []) :: (dx, dicP (sorD n2 .none 0 0)) :: (n2, dct w []) :: l)) : WC B l (.ref 137) [] KV := by
  refine c_make (fI := 73) (by kernel_rfl) (by kernel_rfl) (by kernel_rfl) fun B' x dx => ?_
  exact s_tinit (B'.le (by decide)) fun n2 => ⟨rfl, h x dx n2⟩
end
theorem cs_of {cs : List (Str × Addr)} {names : List Str} (h : cs.map (·.1) = names) : ∃ as : List Addr, as.length = names.length ∧ cs = names.zip as := by
  subst h
  exact ⟨cs.map (·.2), by simp, by induction cs with
    | nil => rfl
    | cons x r ih => rw [List.map_cons, List.map_cons, List.zip_cons_cons, ← ih]⟩
noncomputable def seenP (rights : Int) (hs : List Int) (c n : Nat) : List Int := ((List.range n).filter fun (i : Nat) => rights / 8 ^ (2 - (c : Int)).toNat / 2 ^ (2 - (i : Int)).toNat % 2 == 1).map fun i => hs.getD i 0
theorem seenP_succ (rights : Int) (hs : List Int) (c n : Nat) : seenP rights hs c (n + 1) = seenP rights hs c n ++ if rights / 8 ^ (2 - (c : Int)).toNat / 2 ^ (2 - (n : Int)).toNat % 2 == 1 then [hs.getD n 0] else [] := by
  unfold seenP
  rw [List.range_succ, List.filter_append, List.map_append]
  congr 1
  simp only [List.filter_cons, List.filter_nil]
  split <;> simp
theorem seenP_len (rights : Int) (hs : List Int) (c n : Nat) : (seenP rights hs c n).length ≤ n := by
  unfold seenP
  rw [List.length_map]
  exact Nat.le_trans (List.length_filter_le _ _) (by simp)
noncomputable def showsP (mode : Int) (hs : List Int) (c : Nat) : List Int :=
  let rights := Builtin.bitAnd mode 4095
  let seen := seenP rights hs c hs.length
  if Builtin.bitAnd mode 61440 == 16384 then (if rights / 2 ^ (11 - (c : Int)).toNat % 2 == 1 then seen.reverse else seen) else []
section
variable {G : Gr} {w : World} {l : List Ent} {n : Nat} {KV : Pt → List Ent → Prop}
theorem s_shows {mode : Int} {ha : Addr} {hs : List Int} {c : Nat} (B : Bx G w 4) (hm : 0 ≤ mode) (hl : hs.length ≤ 3) (hc : c ≤ 2)
    (h : ∀ a, KV (.ref a) ((a, lst ((showsP mode hs c).map Pt.int)) :: (ha, lst (hs.map Pt.int)) :: l)) : WC B ((ha, lst (hs.map Pt.int)) :: l) (.ref 287) [.int mode, .ref ha, .int c] KV := by
  have h81 : (0 : Int) < 8 ^ (2 - (c : Int)).toNat := Int.pow_pos (by decide)
  have h82 : (8 : Int) ^ (2 - (c : Int)).toNat < 1073741824 := by
    have : c = 0 ∨ c = 1 ∨ c = 2 := by omega
    rcases this with rfl | rfl | rfl <;> decide
  have h21 : ∀ k : Nat, (0 : Int) < 2 ^ k := fun k => Int.pow_pos (by decide)
  have h22 : ∀ k : Nat, k ≤ 11 → (2 : Int) ^ k < 1073741824 := fun k hk => Int.lt_of_le_of_lt (b := 2 ^ 11) (by exact_mod_cast Nat.pow_le_pow_right (by decide) hk) (by decide)
  refine k_enterC (fd := f287) (names := ["mode", "held", "c"]) (body := fBody st41) (by kernel_rfl) (by kernel_rfl) (by kernel_rfl) (by kernel_rfl) (by kernel_rfl) (by kernel_rfl) (by kernel_rfl)
    (fun vs hv => by
      cases hv with | cons h1 hv =>
      cases hv with | cons h2 hv =>
      cases hv with | cons h3 hv =>
      cases hv
      exact ⟨[(_, _), (_, _), (_, _)], by kernel_rfl, rfl, rfl⟩) fun L cs env B B1 KF en hcs hR hN => ?_
  obtain ⟨as, ha1, rfl⟩ := cs_of (names := ["rights", "c", "held"]) (hcs.trans (by kernel_rfl))
  match as, ha1 with
  | [a1, a2, a3], _ =>
  refine wbs_cons ?_
  refine k_store 3 0 en rfl (by kernel_rfl) ?_
  refine wbs_cons ?_
  refine k_storeC 2 en rfl rfl (by kernel_rfl) ?_
  refine wbs_cons ?_
  refine k_storeC 1 en rfl rfl (by kernel_rfl) ?_
  refine wbs_nil ?_
  refine k_Assign ?_
  refine k_call (f := 190) (fd := f190) en (by kernel_rfl) (by kernel_rfl) (by kernel_rfl) ?_
  refine k_items_cons ?_
  refine k_name 3 0 en rfl rfl (by kernel_rfl) ?_
  refine k_items_nil ?_
  refine s_IMODE (B.le (by decide)) ?_
  refine k_storeC 0 en rfl rfl (by kernel_rfl) ?_
  refine k_AsgListComp [("rights", a1), ("held", a3), ("c", a2)] en rfl (by kernel_rfl) (by kernel_rfl) ?_
  refine k_tcall (T := "range") en (by kernel_rfl) (by kernel_rfl) (by kernel_rfl) ?_
  refine k_items_cons ?_
  refine k_bcall (id := "len") en (by kernel_rfl) (by kernel_rfl) (by kernel_rfl) ?_
  refine k_items_cons ?_
  refine k_cell 2 en rfl rfl (by kernel_rfl) ?_
  refine k_items_nil ?_
  refine c_len (.ofL 4 rfl) (by first | decide | omega | (simp; omega) | exact Nat.le_of_ble_eq_true rfl | (simp; done)) ?_
  refine k_items_nil ?_
  refine c_range fun a => ?_
  refine k_iterR (m := hs.length) .head (by rw [List.length_map]; omega) (by omega) (by omega) fun it => ?_
  refine ⟨it, rfl, fun acc C env2 en2 => ?_⟩
  refine k_comp1 (α := Unit) hs.length (fun k => ri k ((hs.length : Int) - k) 1) (fun k p => p = .int k) (fun _ _ => True)
    (fun k _ => (C, nsP [("i", none)]) :: (acc, lst (((seenP (Builtin.bitAnd mode 4095) hs c k).map Pt.int))) :: (a1, cel (some (.int (Builtin.bitAnd mode 4095)))) :: (a2, cel (some (.int c))) :: (a3, cel (some (.ref ha))) :: (L, nsP [bd "mode" (.int mode)]) :: (ha, lst (hs.map Pt.int)) :: l)
    (fun it => src_range0) ?_ ?_ it () trivial ?_ (self_ri 2 rfl)
  · intro it k _ p K' hk _ hp hK
    subst hp
    have h23 := h21 (2 - (k : Int)).toNat
    have h24 := h22 (2 - (k : Int)).toNat (by omega)
    have hv := at_int (is := hs) (k := (k : Int).toNat) (by omega)
    have hsl := seenP_len (Builtin.bitAnd mode 4095) hs c k
    refine k_asgTN ?_
    refine k_store 1 0 en2 rfl (by kernel_rfl) ?_
    refine wifs_one ?_
    refine k_tCompare ?_
    refine k_BinOp ?_
    refine k_BinOp ?_
    refine k_BinOp ?_
    refine k_cell 3 en2 rfl rfl (by kernel_rfl) ?_
    refine k_BinOp ?_
    refine k_int ?_
    refine k_BinOp ?_
    refine k_int ?_
    refine k_cell 4 en2 rfl rfl (by kernel_rfl) ?_
    refine k_sub ?_
    refine k_powS (by decide) (by omega) (by omega) ?_
    refine k_fdiv (by first | with_reducible assumption | decide | omega) (by first | with_reducible assumption | decide | omega) ?_
    refine k_BinOp ?_
    refine k_int ?_
    refine k_BinOp ?_
    refine k_int ?_
    refine k_name 1 0 en2 rfl rfl (by kernel_rfl) ?_
    refine k_sub ?_
    refine k_powS (by decide) (by omega) (by omega) ?_
    refine k_fdiv (by first | with_reducible assumption | decide | omega) (by first | with_reducible assumption | decide | omega) ?_
    refine k_int ?_
    refine k_mod (by first | with_reducible assumption | decide | omega) ?_
    refine k_int ?_
    refine k_eq ?_
    refine k_tb ?_
    refine ⟨fun q => ?_, fun q => ?_⟩
    · refine k_Subscript ?_
      refine k_cell 5 en2 rfl rfl (by kernel_rfl) ?_
      refine k_name 1 0 en2 rfl rfl (by kernel_rfl) ?_
      refine k_get (.ofL 7 rfl) (by omega) (by omega) (by assumption) ?_
      refine c_append 2 rfl (by first | decide | omega | (simp; omega) | exact Nat.le_of_ble_eq_true rfl | (simp; done)) ?_
      refine hK _ () trivial ?_
      rw [seenP_succ, if_pos q, List.map_append]
      exact imw 1 1 rfl rfl (Wk.w (.forget .refl)) (imx 8 31204079050816 8 rfl (by kernel_rfl))
    · refine hK _ () trivial ?_
      rw [seenP_succ, if_neg (by rw [q]; decide), List.append_nil]
      exact imw 1 1 rfl rfl (Wk.w (.forget .refl)) (imx 8 31204079050816 8 rfl (by kernel_rfl))
  · intro _ _
    have h25 := h21 (11 - (c : Int)).toNat
    have h26 := h22 (11 - (c : Int)).toNat (by omega)
    have hsl := seenP_len (Builtin.bitAnd mode 4095) hs c hs.length
    refine k_store 5 1 en rfl (by kernel_rfl) ?_
    refine k_endC (.keep .head .refl) ?_
    refine k_If ?_
    refine k_tCompare ?_
    refine k_BinOp ?_
    refine k_BinOp ?_
    refine k_cell 1 en rfl rfl (by kernel_rfl) ?_
    refine k_BinOp ?_
    refine k_int ?_
    refine k_BinOp ?_
    refine k_int ?_
    refine k_cell 2 en rfl rfl (by kernel_rfl) ?_
    refine k_sub ?_
    refine k_powS (by decide) (by omega) (by omega) ?_
    refine k_fdiv (by first | with_reducible assumption | decide | omega) (by first | with_reducible assumption | decide | omega) ?_
    refine k_int ?_
    refine k_mod (by first | with_reducible assumption | decide | omega) ?_
    refine k_int ?_
    refine k_eq ?_
    refine k_tb ?_
    refine ⟨fun q => ?_, fun q => ?_⟩
    · refine k_Expr en (by kernel_rfl) ?_
      refine k_lmeth PySem.F.slot_list_reverse PySem.F.type_list_reverse ?_
      refine k_name 4 1 en rfl rfl (by kernel_rfl) ?_
      refine qm 0 rfl ?_
      refine k_meth0 ?_
      refine c_reverse 0 rfl (by first | decide | omega | (simp; omega) | exact Nat.le_of_ble_eq_true rfl | (simp; done)) ?_
      refine ⟨rfl, ?_⟩
      refine k_nil ?_
      refine nx_next ?_
      refine k_Return ?_
      refine k_IfExp ?_
      refine k_tVal ?_
      refine k_call (f := 204) (fd := f204) en (by kernel_rfl) (by kernel_rfl) (by kernel_rfl) ?_
      refine k_items_cons ?_
      refine k_name 4 0 en rfl rfl (by kernel_rfl) ?_
      refine k_items_nil ?_
      refine s_ISDIR (B.le (by decide)) ?_
      refine k_tb ?_
      refine ⟨fun q2 => ?_, fun q2 => ?_⟩
      · refine k_name 4 1 en rfl rfl (by kernel_rfl) ?_
        refine hR _ _ _ ?_ (h acc)
        rw [show showsP mode hs c = (seenP (Builtin.bitAnd mode 4095) hs c hs.length).reverse by unfold showsP; dsimp only; rw [if_pos q2, if_pos q], List.map_reverse]
        exact imx 2 320 6 rfl (by kernel_rfl)
      · refine k_List ?_
        refine k_items_nil ?_
        refine ⟨Nat.le_of_ble_eq_true rfl, fun a => ?_⟩
        refine hR _ _ _ ?_ (h a)
        rw [show showsP mode hs c = [] by unfold showsP; dsimp only; rw [if_neg (by rw [q2]; decide)]]
        exact imx 2 384 7 rfl (by kernel_rfl)
    · refine k_nil ?_
      refine nx_next ?_
      refine k_Return ?_
      refine k_IfExp ?_
      refine k_tVal ?_
      refine k_call (f := 204) (fd := f204) en (by kernel_rfl) (by kernel_rfl) (by kernel_rfl) ?_
      refine k_items_cons ?_
      refine k_name 4 0 en rfl rfl (by kernel_rfl) ?_
      refine k_items_nil ?_
      refine s_ISDIR (B.le (by decide)) ?_
      refine k_tb ?_
      refine ⟨fun q2 => ?_, fun q2 => ?_⟩
      · refine k_name 4 1 en rfl rfl (by kernel_rfl) ?_
        refine hR _ _ _ ?_ (h acc)
        rw [show showsP mode hs c = seenP (Builtin.bitAnd mode 4095) hs c hs.length by unfold showsP; dsimp only; rw [if_pos q2, if_neg (by rw [q]; decide)]]
        exact imx 2 320 6 rfl (by kernel_rfl)
      · refine k_List ?_
        refine k_items_nil ?_
        refine ⟨Nat.le_of_ble_eq_true rfl, fun a => ?_⟩
        refine hR _ _ _ ?_ (h a)
        rw [show showsP mode hs c = [] by unfold showsP; dsimp only; rw [if_neg (by rw [q2]; decide)]]
        exact imx 2 384 7 rfl (by kernel_rfl)
  · exact imw 0 1 rfl rfl (Wk.w (.new .refl)) (imx 8 35671935815682 9 rfl (by kernel_rfl))
end
noncomputable def digP : List Nat → List Nat → List (List Nat)
  | s :: ss, d :: ds => (if decide (s ∈ [45, 83, 84]) then [] else [[d]]) ++ digP ss ds
  | _, _ => []
theorem digP_succ {s d : Nat} : ∀ {k : Nat} {ss ds : List Nat}, ss[k]? = some s → ds[k]? = some d → digP (ss.take (k + 1)) (ds.take (k + 1)) = digP (ss.take k) (ds.take k) ++ (if decide (s ∈ [45, 83, 84]) then [] else [[d]]) := fun {k} => by
  induction k with
  | zero =>
    intro ss ds h1 h2
    cases ss with | nil => simp at h1 | cons a ss =>
    cases ds with | nil => simp at h2 | cons b ds =>
    simp at h1 h2; subst h1; subst h2
    simp [digP]
  | succ k ih =>
    intro ss ds h1 h2
    cases ss with | nil => simp at h1 | cons a ss =>
    cases ds with | nil => simp at h2 | cons b ds =>
    have := ih (by simpa using h1) (by simpa using h2)
    rw [List.take_succ_cons, List.take_succ_cons, List.take_succ_cons, List.take_succ_cons]
    show _ ++ digP _ _ = (_ ++ digP _ _) ++ _
    rw [this, List.append_assoc]
theorem digP_len : ∀ (ss ds : List Nat), (digP ss ds).length ≤ ds.length
  | [], _ => by simp [digP]
  | _ :: _, [] => by simp [digP]
  | s :: ss, d :: ds => by
    have := digP_len ss ds
    show (_ ++ digP ss ds).length ≤ _
    rw [List.length_append, List.length_cons]
    split <;> simp <;> omega
theorem digP_take : ∀ (ss ds : List Nat), digP (ss.take ds.length) ds = digP ss ds
  | [], _ => by simp
  | _ :: _, [] => by simp [digP]
  | s :: ss, d :: ds => by
    rw [List.length_cons, List.take_succ_cons]
    show _ ++ digP _ _ = _ ++ digP _ _
    rw [digP_take ss ds]
noncomputable def tenP (ws : List (List Nat)) (d : List Nat) : List (List Nat) := ws.filter fun o => [o.getD 10 0] == d
theorem tenP_succ {ws : List (List Nat)} {d : List Nat} {k : Nat} {o : List Nat} (h : ws[k]? = some o) : tenP (ws.take (k + 1)) d = tenP (ws.take k) d ++ if [o.getD 10 0] == d then [o] else [] := by
  unfold tenP
  rw [List.take_succ, h, List.filter_append]
  simp only [Option.toList_some, List.filter_cons, List.filter_nil]
theorem tenP_len (ws : List (List Nat)) (d : List Nat) : (tenP ws d).length ≤ ws.length := List.length_filter_le ..
theorem flat_len {ws : List (List Nat)} : ∀ ds : List (List Nat), (ds.flatMap (tenP ws)).length ≤ ds.length * ws.length
  | [] => by simp
  | d :: ds => by
    have h1 := flat_len (ws := ws) ds
    have h2 := tenP_len ws d
    rw [List.flatMap_cons, List.length_append, List.length_cons, Nat.succ_mul]
    omega
theorem flat_succ {f : List Nat → List (List Nat)} {ds : List (List Nat)} {k : Nat} {d : List Nat} (h : ds[k]? = some d) : (ds.take (k + 1)).flatMap f = (ds.take k).flatMap f ++ f d := by
  rw [List.take_succ, h, List.flatMap_append]
  simp
noncomputable def seenW (wd : List Nat) (ws : List (List Nat)) (c : Nat) : List (List Nat) :=
  let sg := cutS wd (some (3 * c + 1)) (some (3 * c + 4))
  let ds := digP sg (cutS wd (some 11) none)
  let ds := if decide (sg.getD 2 0 ∈ [115, 83, 116, 84]) then ds.reverse else ds
  if wd.getD 0 0 = 100 then ds.flatMap (tenP ws) else []
section
variable {G : Gr} {w : World} {l : List Ent} {n : Nat} {KV : Pt → List Ent → Prop}
theorem wio_nil {B : Bx G w n} {KU : List Ent → Prop} (h : KU l) : WIO B [] [] KU l := h
theorem im_z5 {t a b c d e : Ent} : Im (t :: a :: b :: c :: d :: e :: l) (a :: b :: c :: d :: e :: t :: l) := .perm (by
  refine (List.Perm.swap ..).trans (.cons _ ?_)
  refine (List.Perm.swap ..).trans (.cons _ ?_)
  refine (List.Perm.swap ..).trans (.cons _ ?_)
  refine (List.Perm.swap ..).trans (.cons _ ?_)
  exact List.Perm.swap ..) .refl
theorem k_iterZ {B : Bx G w n} {z TI TO : Addr} {f0 : Value} (h : KV (.ref z) ((z, zpE TI TO f0) :: l)) : WV1 B ((z, zpE TI TO f0) :: l) pyIter (.ref z) KV := fun v hv => by cases hv; exact self_zip h
theorem s_seen {ta : Addr} {wd : List Nat} {ws : List (List Nat)} {c : Nat} (B : Bx G w 4) (hw : 11 ≤ wd.length ∧ wd.length ≤ 14) (hws : ∀ y ∈ ws, 11 ≤ y.length) (hl : ws.length ≤ 5) (hc : c ≤ 2) (hasc : asc wd = true)
    (h : ∀ a, KV (.ref a) ((a, lst ((seenW wd ws c).map Pt.str)) :: (ta, lst (ws.map Pt.str)) :: l)) : WC B ((ta, lst (ws.map Pt.str)) :: l) (.ref 270) [.str wd, .ref ta, .int c] KV := by
  refine k_enterC (fd := f270) (names := ["word", "told", "c"]) (body := fBody st38) (by kernel_rfl) (by kernel_rfl) (by kernel_rfl) (by kernel_rfl) (by kernel_rfl) (by kernel_rfl) (by kernel_rfl)
    (fun vs hv => by
      cases hv with | cons h1 hv =>
      cases hv with | cons h2 hv =>
      cases hv with | cons h3 hv =>
      cases hv
      exact ⟨[(_, _), (_, _), (_, _)], by kernel_rfl, rfl, rfl⟩) fun L cs env B B1 KF en hcs hR hN => ?_
  obtain ⟨as, ha1, rfl⟩ := cs_of (names := ["told"]) (hcs.trans (by kernel_rfl))
  match as, ha1 with
  | [a1], _ =>
  refine wbs_cons ?_
  refine k_store 1 0 en rfl (by kernel_rfl) ?_
  refine wbs_cons ?_
  refine k_storeC 0 en rfl rfl (by kernel_rfl) ?_
  refine wbs_cons ?_
  refine k_store 1 1 en rfl (by kernel_rfl) ?_
  refine wbs_nil ?_
  refine k_Assign ?_
  refine k_sslice ?_
  refine k_name 1 0 en rfl rfl (by kernel_rfl) ?_
  refine k_some ?_
  refine k_BinOp ?_
  refine k_BinOp ?_
  refine k_int ?_
  refine k_name 1 1 en rfl rfl (by kernel_rfl) ?_
  refine k_mul (by mul_fits) ?_
  refine k_int ?_
  refine k_add ?_
  refine k_some ?_
  refine k_BinOp ?_
  refine k_BinOp ?_
  refine k_int ?_
  refine k_name 1 1 en rfl rfl (by kernel_rfl) ?_
  refine k_mul (by mul_fits) ?_
  refine k_int ?_
  refine k_add ?_
  have ⟨sg, hsg⟩ : ∃ z, z = cutS wd (some (3 * c + 1)) (some (3 * c + 4)) := ⟨_, rfl⟩
  have ⟨tl, htl⟩ : ∃ z, z = cutS wd (some 11) none := ⟨_, rfl⟩
  have hs3 : sg.length = 3 := by rw [hsg]; simp [cutS]; omega
  have ht3 : tl.length ≤ 3 := by rw [htl]; simp [cutS]; omega
  refine ⟨wd, some (3 * c + 1), some (3 * c + 4), rfl, ⟨_, by omega, rfl⟩, ⟨_, by omega, rfl⟩, fun k e => by cases e; simp, by omega, ?_⟩
  rw [← hsg]
  have has : asc sg = true := by rw [hsg]; unfold asc at *; unfold cutS; rw [List.all_eq_true] at *; exact fun x hx => hasc x (List.mem_of_mem_drop (List.mem_of_mem_take hx))
  have hat : asc tl = true := by rw [htl]; unfold asc at *; unfold cutS; rw [List.all_eq_true] at *; exact fun x hx => hasc x (List.mem_of_mem_drop (List.mem_of_mem_take hx))
  refine k_store 1 2 en rfl (by kernel_rfl) ?_
  refine k_AsgListComp [] en rfl (by kernel_rfl) (by kernel_rfl) ?_
  refine k_tcall (T := "zip") en (by kernel_rfl) (by kernel_rfl) (by kernel_rfl) ?_
  refine k_items_cons ?_
  refine k_name 1 2 en rfl rfl (by kernel_rfl) ?_
  refine k_items_cons ?_
  refine k_sslice ?_
  refine k_name 1 0 en rfl rfl (by kernel_rfl) ?_
  refine k_some ?_
  refine k_int ?_
  refine k_absent ?_
  refine ⟨wd, some 11, none, rfl, ⟨_, by omega, rfl⟩, rfl, fun _ e => (nomatch e), by omega, ?_⟩
  rw [← htl]
  refine k_items_nil ?_
  refine c_zip (by assumption) (by assumption) fun z TI TO i1 i2 => ?_
  refine k_iterZ ⟨z, rfl, fun acc C env2 en2 => ?_⟩
  refine k_comp1G (α := Unit) tl.length (fun _ _ => True)
    (fun k _ => zpL z TI TO i1 i2 sg tl .none k k ((C, nsP [("sign", none), ("digit", none)]) :: (acc, lst ((digP (sg.take k) (tl.take k)).map Pt.str)) :: (a1, cel (some (.ref ta))) :: (L, nsP [bd "word" (.str wd), bd "c" (.int c), bd "signs" (.str sg)]) :: (ta, lst (ws.map Pt.str)) :: l))
    ?_ ?_ () trivial ?_ (fun s F => ?_)
  · intro k _ K' hk _ hK
    have e1 := List.getElem?_eq_getElem (l := sg) (i := k) (by omega)
    have e2 := List.getElem?_eq_getElem (l := tl) (i := k) (by omega)
    refine n_zip e1 e2 fun T => ⟨_, rfl, ?_⟩
    refine WU1.im im_z5 (k_asgZip (k_asgTup (.tail (.tail (.tail (.tail (.tail .head))))) rfl rfl ?_))
    refine k_asgN ?_
    refine k_store 6 0 en2 rfl (by kernel_rfl) ?_
    refine k_asgN ?_
    refine k_store 6 1 en2 rfl (by kernel_rfl) ?_
    refine wio_nil ?_
    refine wifs_one ?_
    refine k_tCompare ?_
    refine k_name 6 0 en2 rfl rfl (by kernel_rfl) ?_
    refine k_str [45, 83, 84] (by kernel_rfl) ?_
    refine k_snin ?_
    refine k_tb ?_
    refine ⟨fun q => ?_, fun q => ?_⟩
    · have hdl := Nat.le_trans (digP_len (sg.take k) (tl.take k)) (Nat.le_trans (List.length_take_le' ..) ht3)
      refine k_name 6 1 en2 rfl rfl (by kernel_rfl) ?_
      refine c_append 7 rfl (by first | decide | omega | (simp; omega) | exact Nat.le_of_ble_eq_true rfl | (simp; done)) ?_
      refine hK _ () trivial ?_
      rw [digP_succ e1 e2, if_neg (by rw [(Bool.not_eq_true' _).mp q]; decide), List.map_append]
      exact imw 6 5 rfl rfl (Wk.w (.forget (.forget .refl))) (imx 10 182712931803996224 11 rfl (by kernel_rfl))
    · refine hK _ () trivial ?_
      rw [digP_succ e1 e2, if_pos ((Bool.not_eq_false' _).mp q), List.append_nil]
      exact imw 6 5 rfl rfl (Wk.w (.forget (.forget .refl))) (imx 10 182712931803996224 11 rfl (by kernel_rfl))
  · intro _ _
    refine n_zipEnd (.inr (List.getElem?_eq_none (Nat.le_refl _))) ⟨rfl, ?_⟩
    have ⟨ds, hds⟩ : ∃ z, z = digP (sg.take tl.length) tl := ⟨_, rfl⟩
    have hdl : ds.length ≤ 3 := by rw [hds]; exact Nat.le_trans (digP_len ..) ht3
    rw [List.take_length, ← hds]
    have e2 := List.getElem?_eq_getElem (l := sg) (i := (2 : Int).toNat) (by rw [hs3]; decide)
    have e0 := List.getElem?_eq_getElem (l := wd) (i := (0 : Int).toNat) (by show 0 < _; omega)
    refine k_store 3 3 en rfl (by kernel_rfl) ?_
    refine k_endC (.keep .head .refl) ?_
    refine k_If ?_
    refine k_tCompare ?_
    refine k_Subscript ?_
    refine k_name 2 2 en rfl rfl (by kernel_rfl) ?_
    refine k_int ?_
    refine k_sitem (by omega) (by omega) (by first | assumption | rfl) ?_
    refine k_str [115, 83, 116, 84] (by kernel_rfl) ?_
    refine k_sin ?_
    refine k_tb ?_
    have hfin : ∀ (ds : List (List Nat)), ds.length ≤ 3 → seenW wd ws c = (if wd.getD 0 0 = 100 then ds.flatMap (tenP ws) else []) → WF B ((acc, lst (ds.map Pt.str)) :: (a1, cel (some (.ref ta))) :: (L, nsP [bd "word" (.str wd), bd "c" (.int c), bd "signs" (.str sg), bd "digits" (.ref acc)]) :: (ta, lst (ws.map Pt.str)) :: l)
        (execs (((fBody st38).drop 3)) env) KF := fun ds hdl hsw => by
      refine k_If ?_
      refine k_tCompare ?_
      refine k_Subscript ?_
      refine k_name 2 0 en rfl rfl (by kernel_rfl) ?_
      refine k_int ?_
      refine k_sitem (by omega) (by omega) (by first | assumption | rfl) ?_
      refine k_str [100] (by kernel_rfl) ?_
      refine k_sne ?_
      refine k_tb ?_
      refine ⟨fun q => ?_, fun q => ?_⟩
      · refine k_Return ?_
        refine k_List ?_
        refine k_items_nil ?_
        refine ⟨Nat.le_of_ble_eq_true rfl, fun a => ?_⟩
        refine nx_ret ?_
        refine hR _ _ _ ?_ (h a)
        rw [hsw, if_neg (fun e => by rw [List.getD_eq_getElem?_getD] at e; rw [show wd[0]? = _ from e0] at e; simp only [Option.getD_some] at e; rw [e] at q; exact absurd q (by decide))]
        exact imx 2 256 5 rfl (by kernel_rfl)
      · refine k_nil ?_
        refine nx_next ?_
        refine k_Return ?_
        refine k_ListComp [("told", a1)] en rfl (by kernel_rfl) ?_
        refine k_name 2 3 en rfl rfl (by kernel_rfl) ?_
        refine k_iterL 0 rfl fun it => ?_
        refine ⟨it, rfl, fun acc2 C2 env3 en3 => ?_⟩
        refine k_comp01 (α := Unit) (ifs := []) (ds.map Pt.str).length (fun k => li acc k) (fun k p => (ds.map Pt.str)[k]? = some p) (fun _ _ => True)
          (fun k _ => (C2, nsP [("digit", none), ("other", none)]) :: (acc2, lst (((ds.take k).flatMap (tenP ws)).map Pt.str)) :: (acc, lst (ds.map Pt.str)) :: (a1, cel (some (.ref ta))) :: (L, nsP [bd "word" (.str wd), bd "c" (.int c), bd "signs" (.str sg), bd "digits" (.ref acc)]) :: (ta, lst (ws.map Pt.str)) :: l)
          (fun it => src_list (a := acc) fun k l' h => by obtain ⟨_, _, rfl⟩ := h; exact .tail (.tail .head)) ?_ ?_ it () trivial ?_ (self_li 2 rfl)
        · intro it0 k _ p K2 hk _ hp hK2
          obtain ⟨d, hd, rfl⟩ : ∃ d, ds[k]? = some d ∧ p = .str d := by
            rw [List.getElem?_map] at hp
            cases e : ds[k]? with
            | none => rw [e] at hp; cases hp
            | some d => rw [e] at hp; cases hp; exact ⟨d, rfl, rfl⟩
          refine k_asgTN ?_
          refine k_store 1 0 en3 rfl (by kernel_rfl) ?_
          refine k_cell 4 en3 rfl rfl (by kernel_rfl) ?_
          refine k_iterL 6 rfl fun it => ?_
          refine ⟨it, rfl, ?_⟩
          refine k_comp2 (α := Unit) (ws.map Pt.str).length (fun k => li ta k) (fun k p => (ws.map Pt.str)[k]? = some p) (fun _ _ => True)
            (fun j _ => (C2, nsP [("digit", some (.str d)), ("other", none)]) :: (acc2, lst (((ds.take k).flatMap (tenP ws) ++ tenP (ws.take j) d).map Pt.str)) :: (it0, li acc (k + 1)) :: (acc, lst (ds.map Pt.str)) :: (a1, cel (some (.ref ta))) :: (L, nsP [bd "word" (.str wd), bd "c" (.int c), bd "signs" (.str sg), bd "digits" (.ref acc)]) :: (ta, lst (ws.map Pt.str)) :: l)
            (fun it => src_list (a := ta) fun k l' h => by obtain ⟨_, _, rfl⟩ := h; exact .tail (.tail (.tail (.tail (.tail (.tail .head)))))) ?_ ?_ it () trivial ?_ (self_li 0 rfl)
          · intro it1 j _ p K3 hj _ hp hK3
            obtain ⟨o, ho, rfl⟩ : ∃ o, ws[j]? = some o ∧ p = .str o := by
              rw [List.getElem?_map] at hp
              cases e : ws[j]? with
              | none => rw [e] at hp; cases hp
              | some d => rw [e] at hp; cases hp; exact ⟨d, rfl, rfl⟩
            have ho11 := hws o (List.mem_of_getElem? ho)
            have e10 := List.getElem?_eq_getElem (l := o) (i := (10 : Int).toNat) (by show 10 < _; omega)
            have hq10 : o.getD 10 0 = o[(10 : Int).toNat] := by rw [List.getD_eq_getElem?_getD, show o[10]? = _ from e10]; rfl
            have h1 := flat_len (ws := ws) (ds.take k)
            have h2 := tenP_len (ws.take j) d
            have h3 : (ds.take k).length ≤ 3 := Nat.le_trans (List.length_take_le' ..) hdl
            have h4 : (ws.take j).length ≤ 5 := Nat.le_trans (List.length_take_le' ..) hl
            have h5 : (ds.take k).length * ws.length ≤ 3 * 5 := Nat.mul_le_mul h3 hl
            have h6 : (((ds.take k).flatMap (tenP ws) ++ tenP (ws.take j) d).map Pt.str).length ≤ 20 := by rw [List.length_map, List.length_append]; omega
            refine k_asgTN ?_
            refine k_store 1 1 en3 rfl (by kernel_rfl) ?_
            refine wifs_one ?_
            refine k_tCompare ?_
            refine k_Subscript ?_
            refine k_name 1 1 en3 rfl rfl (by kernel_rfl) ?_
            refine k_int ?_
            refine k_sitem (by omega) (by omega) (by first | assumption | rfl) ?_
            refine k_name 1 0 en3 rfl rfl (by kernel_rfl) ?_
            refine k_seq ?_
            refine k_tb ?_
            refine ⟨fun q => ?_, fun q => ?_⟩
            · refine k_name 1 1 en3 rfl rfl (by kernel_rfl) ?_
              refine c_append 2 rfl (by first | decide | omega | (simp; omega) | exact Nat.le_of_ble_eq_true rfl | (simp; done)) ?_
              refine hK3 _ () trivial ?_
              rw [tenP_succ ho, if_pos (by rw [hq10]; exact q), ← List.append_assoc, List.map_append (l₂ := [o])]
              exact imw 1 1 rfl rfl (Wk.w (.keep (.forget .refl))) (imx 8 31204079050816 8 rfl (by kernel_rfl))
            · refine hK3 _ () trivial ?_
              rw [tenP_succ ho, if_neg (by rw [hq10, q]; decide), List.append_nil]
              exact imw 1 1 rfl rfl (Wk.w (.keep (.forget .refl))) (imx 8 31204079050816 8 rfl (by kernel_rfl))
          · intro _ _
            refine hK2 _ () trivial ?_
            rw [flat_succ hd, List.length_map, List.take_length]
            exact imw 0 1 rfl rfl (Wk.w (.forget .refl)) (imx 7 417753468930 7 rfl (by kernel_rfl))
          · rw [show tenP (ws.take 0) d = [] from rfl, List.append_nil]
            exact imx 8 31204078530688 8 rfl (by kernel_rfl)
        · intro _ _
          refine k_endC (.keep .head .refl) ?_
          refine hR _ _ _ ?_ (h acc2)
          rw [List.length_map, List.take_length, hsw, if_pos (by rw [List.getD_eq_getElem?_getD, show wd[0]? = _ from e0]; simpa using q)]
          exact imx 2 256 5 rfl (by kernel_rfl)
        · exact imw 0 1 rfl rfl (Wk.w (.new (.new .refl))) (imx 7 417753468930 7 rfl (by kernel_rfl))
    have hsw : seenW wd ws c = if wd.getD 0 0 = 100 then (if decide (sg.getD 2 0 ∈ [115, 83, 116, 84]) then ds.reverse else ds).flatMap (tenP ws) else [] := by
      unfold seenW
      dsimp only
      rw [← hsg, ← htl, show digP sg tl = ds by rw [hds, digP_take]]
    have hsg2 : sg.getD 2 0 = sg[(2 : Int).toNat] := by rw [List.getD_eq_getElem?_getD, show sg[2]? = _ from e2]; rfl
    refine ⟨fun q => ?_, fun q => ?_⟩
    · refine k_Expr en (by kernel_rfl) ?_
      refine k_lmeth PySem.F.slot_list_reverse PySem.F.type_list_reverse ?_
      refine k_name 2 3 en rfl rfl (by kernel_rfl) ?_
      refine qm 0 rfl ?_
      refine k_meth0 ?_
      refine c_reverse 0 rfl (by first | decide | omega | (simp; omega)) ?_
      refine ⟨rfl, ?_⟩
      refine k_nil ?_
      refine nx_next ?_
      refine WF.im ?_ (hfin ds.reverse (by rw [List.length_reverse]; exact hdl) (by rw [hsw, hsg2, show decide (sg[(2 : Int).toNat] ∈ [115, 83, 116, 84]) = true from q]; rfl))
      rw [List.map_reverse]
      exact imx 4 794688 4 rfl (by kernel_rfl)
    · refine k_nil ?_
      refine nx_next ?_
      refine WF.im ?_ (hfin ds hdl (by rw [hsw, hsg2, show decide (sg[(2 : Int).toNat] ∈ [115, 83, 116, 84]) = false from q]; rfl))
      exact imx 4 794688 4 rfl (by kernel_rfl)
  · exact imw 0 5 rfl rfl (Wk.w (.new (.new .refl))) (imx 10 164412241546068162 10 rfl (by kernel_rfl))
  · obtain ⟨_, ez, rfl⟩ := F.get (.tail (.tail .head))
    exact wpAny_pyIter_zip ez (vi okR F ⟨rfl, .refl⟩)
end
noncomputable def lvL (xs : List (Addr × List Word)) : List Ent := xs.map fun x => (x.1, lst (x.2.map Pt.str))
noncomputable def tuL (xs : List (Addr × List Word)) : List Ent := xs.map fun x => (x.1, tup (x.2.map Pt.str))
noncomputable def rfs (xs : List (Addr × List Word)) : List Pt := xs.map fun x => Pt.ref x.1
theorem lvL_has {xs : List (Addr × List Word)} {x : Addr × List Word} (h : x ∈ xs) : Has x.1 (lst (x.2.map Pt.str)) (lvL xs) := Has.of_mem (List.mem_map.mpr ⟨x, h, rfl⟩)
theorem rfs_at {xs : List (Addr × List Word)} {k : Nat} {p : Pt} (h : (rfs xs)[k]? = some p) : ∃ x, xs[k]? = some x ∧ p = .ref x.1 := by
  unfold rfs at h
  rw [List.getElem?_map] at h
  cases e : xs[k]? with
  | none => rw [e] at h; cases h
  | some d => rw [e] at h; cases h; exact ⟨d, rfl, rfl⟩
noncomputable def stepW (st : List Word × List Word) (y : Word) : List Word × List Word := if st.1.any (· == y) then st else (st.1 ++ [y], st.2 ++ [y])
noncomputable def levelW (later : List Word) (lv : List Word) : List Word × List Word := lv.reverse.foldl stepW (later, [])
noncomputable def lastStep (st : List Word × List (List Word)) (lv : List Word) : List Word × List (List Word) := ((levelW st.1 lv).1, st.2 ++ [(levelW st.1 lv).2.reverse])
noncomputable def lastGo (lvs : List (List Word)) : List Word × List (List Word) := lvs.reverse.foldl lastStep ([], [])
noncomputable def lastW (lvs : List (List Word)) : List (List Word) := (lastGo lvs).2.reverse
theorem fold_succ {α β : Type} {f : β → α → β} {b : β} {xs : List α} {k : Nat} {x : α} (h : xs[k]? = some x) : (xs.take (k + 1)).foldl f b = f ((xs.take k).foldl f b) x := by
  rw [List.take_succ, h, List.foldl_append]
  rfl
theorem stepW_len (ys : List Word) : ∀ st : List Word × List Word, (ys.foldl stepW st).1.length ≤ st.1.length + ys.length ∧ (ys.foldl stepW st).2.length ≤ st.2.length + ys.length := by
  induction ys with
  | nil => intro st; exact ⟨Nat.le_refl _, Nat.le_refl _⟩
  | cons y ys ih =>
    intro st
    have := ih (stepW st y)
    rw [List.foldl_cons, List.length_cons]
    have h2 : (stepW st y).1.length ≤ st.1.length + 1 ∧ (stepW st y).2.length ≤ st.2.length + 1 := by
      unfold stepW
      split
      · omega
      · simp
    omega
theorem lastStep_len {lvs : List (List Word)} {N : Nat} : ∀ st : List Word × List (List Word), (∀ lv ∈ lvs, lv.length ≤ N) → (lvs.foldl lastStep st).1.length ≤ st.1.length + lvs.length * N := by
  induction lvs with
  | nil => intro st _; simp
  | cons lv lvs ih =>
    intro st h
    have h1 := ih (lastStep st lv) fun x hx => h x (.tail _ hx)
    have h2 := (stepW_len lv.reverse (st.1, [])).1
    have h3 := h lv (.head _)
    rw [List.length_reverse] at h2
    rw [List.foldl_cons, List.length_cons, Nat.succ_mul]
    have h4 : (lastStep st lv).1.length ≤ st.1.length + lv.length := h2
    omega
theorem lastStep_len2 {lvs : List (List Word)} : ∀ st : List Word × List (List Word), (lvs.foldl lastStep st).2.length = st.2.length + lvs.length := by
  induction lvs with
  | nil => intro st; rfl
  | cons lv lvs ih =>
    intro st
    rw [List.foldl_cons, ih, List.length_cons]
    show (st.2 ++ [_]).length + _ = _
    rw [List.length_append]
    simp only [List.length_cons, List.length_nil]
    omega
theorem rfs_rev (xs : List (Addr × List Word)) : (rfs xs).reverse = rfs xs.reverse := List.map_reverse.symm
section
variable {G : Gr} {w : World} {l : List Ent} {n : Nat} {KV : Pt → List Ent → Prop}
theorem k_m1 {B : Bx G w n} {env : Env} {pos ps : Pos} {k : Nat} (l : List Ent) (K : Pt → List Ent → Prop) (h : K (.int (-1)) l) : WV B l (eval (.UnaryOp .USub (.Constant (.int 1) k ps) pos) env) K := k_UnaryOp (k_int (k_neg h))
theorem s_last {la : Addr} {lvs : List (Addr × List Word)} (B : Bx G w 2) (hN : ∀ x ∈ lvs, x.2.length ≤ 1000) (hl : lvs.length ≤ 100)
    (h : ∀ a ts, ts.map (·.2) = lastW (lvs.map (·.2)) → KV (.ref a) ((a, lst (rfs ts)) :: (tuL ts ++ ((la, lst (rfs lvs)) :: (lvL lvs ++ l))))) : WC B ((la, lst (rfs lvs)) :: (lvL lvs ++ l)) (.ref 282) [.ref la] KV := by
  refine k_enter (fd := f282) (body := fBody st40) (by kernel_rfl) (by kernel_rfl) (by kernel_rfl) (by kernel_rfl) (by kernel_rfl) (by kernel_rfl) (by kernel_rfl) (bind1 (x := "levels") fun v => by kernel_rfl) fun L env B KF en hR _ => ?_
  have hr : (rfs lvs).length = lvs.length := by unfold rfs; exact List.length_map ..
  refine k_Assign ?_
  refine k_List ?_
  refine k_items_nil ?_
  refine ⟨Nat.le_of_ble_eq_true rfl, fun a => ?_⟩
  refine k_store 1 1 en rfl (by kernel_rfl) ?_
  refine k_Assign ?_
  refine k_List ?_
  refine k_items_nil ?_
  refine ⟨Nat.le_of_ble_eq_true rfl, fun a => ?_⟩
  refine k_store 2 2 en rfl (by kernel_rfl) ?_
  rename_i st
  refine k_forQ ?_
  refine k_lrev ?_ k_m1
  refine k_name 2 0 en rfl rfl (by kernel_rfl) ?_
  refine ⟨la, rfs lvs, rfl, .ofL 3 rfl, by omega, fun b1 => ?_⟩
  refine k_iterL 0 rfl fun it => ?_
  have hrr := rfs_rev lvs
  have ⟨Fk, hFk⟩ : ∃ F : Nat → List Word × List (List Word), F = fun k => ((lvs.reverse.map (·.2)).take k).foldl lastStep ([], []) := ⟨_, rfl⟩
  have hF0 : Fk 0 = ([], []) := by rw [hFk]; rfl
  refine ⟨List (Addr × List Word), (rfs lvs).reverse.length, fun k => li b1 k, fun k p => (rfs lvs).reverse[k]? = some p, fun k ts => ts.map (·.2) = (Fk k).2,
    fun k ts => (L, nsP [bd "levels" (.ref la), bd "stages" (.ref st), bd "later" (.ref a), ("level", none), ("stage", none), ("word", none)]) :: (st, lst (rfs ts)) :: (a, lst ((Fk k).1.map Pt.str)) :: (b1, lst (rfs lvs).reverse) :: (la, lst (rfs lvs)) :: (tuL ts ++ (lvL lvs ++ l)),
    ⟨it, [], rfl, by dsimp only; rw [hF0]; rfl, ?_⟩, fun it => src_list (a := b1) fun k l' h => by obtain ⟨_, _, rfl⟩ := h; exact .tail (.tail (.tail .head)), ?_, ?_⟩
  · try dsimp only
    rw [hF0]
    show Im _ ((it, li b1 0) :: (L, nsP [bd "levels" (.ref la), bd "stages" (.ref st), bd "later" (.ref a), ("level", none), ("stage", none), ("word", none)]) :: (st, lst []) :: (a, lst []) :: (b1, lst (rfs lvs).reverse) :: (la, lst (rfs lvs)) :: (lvL lvs ++ l))
    exact imw 4 1 rfl rfl (Wk.w (.keep (.keep (.keep (.new (.new (.new .refl))))))) (imx 6 5386023168 6 rfl (by kernel_rfl))
  · intro it0 k ts p KF1 hk hts hp hN1 _ _
    rw [hrr] at hp
    obtain ⟨x, hx, rfl⟩ := rfs_at hp
    have hxm : x ∈ lvs := List.mem_reverse.mp (List.mem_of_getElem? hx)
    have hxn := hN x hxm
    have hsucc : Fk (k + 1) = lastStep (Fk k) x.2 := by rw [hFk]; exact fold_succ (by rw [List.getElem?_map, hx]; rfl)
    have hfl : ((lvs.reverse.map (·.2)).take k).length ≤ 100 := Nat.le_trans (List.length_take_le' ..) (by simpa using hl)
    have htl : ts.length ≤ 100 := by
      have e := congrArg List.length hts
      rw [List.length_map, hFk] at e
      dsimp only at e
      have e2 := lastStep_len2 (lvs := (lvs.reverse.map (·.2)).take k) ([], [])
      simp only [List.length_nil] at e2
      omega
    have hll : (Fk k).1.length ≤ 100000 := by
      rw [hFk]
      try dsimp only
      have e2 := lastStep_len (lvs := (lvs.reverse.map (·.2)).take k) (N := 1000) ([], []) (fun lv hv => by
        obtain ⟨y, hy, rfl⟩ := List.mem_map.mp (List.mem_of_mem_take hv)
        exact hN y (List.mem_reverse.mp hy))
      have e3 := Nat.mul_le_mul_right 1000 hfl
      simp only [List.length_nil] at e2
      omega
    try dsimp only
    refine k_asgN ?_
    refine k_store 1 3 en rfl (by kernel_rfl) ?_
    refine k_Assign ?_
    refine k_List ?_
    refine k_items_nil ?_
    refine ⟨Nat.le_of_ble_eq_true rfl, fun sa => ?_⟩
    refine k_store 2 4 en rfl (by kernel_rfl) ?_
    refine k_forQ ?_
    refine k_lrev ?_ k_m1
    refine k_name 2 3 en rfl rfl (by kernel_rfl) ?_
    have hL : ∀ (e0 e1 e2 e3 e4 e5 e6 : Ent), IsL G (e0 :: e1 :: e2 :: e3 :: e4 :: e5 :: e6 :: (tuL ts ++ (lvL lvs ++ l))) x.1 (x.2.map Pt.str) := fun _ _ _ _ _ _ _ s F =>
      isL F (.tail (.tail (.tail (.tail (.tail (.tail (.tail (Has.right (Has.left (lvL_has hxm) l) (tuL ts)))))))))
    refine ⟨x.1, x.2.map Pt.str, rfl, hL _ _ _ _ _ _ _, by rw [List.length_map]; omega, fun b2 => ?_⟩
    refine k_iterL 0 rfl fun it => ?_
    have ⟨Gk, hGk⟩ : ∃ F : Nat → List Word × List Word, F = fun j => (x.2.reverse.take j).foldl stepW ((Fk k).1, []) := ⟨_, rfl⟩
    have hG0 : Gk 0 = ((Fk k).1, []) := by rw [hGk]; rfl
    refine ⟨Unit, (x.2.map Pt.str).reverse.length, fun k => li b2 k, fun j p => (x.2.map Pt.str).reverse[j]? = some p, fun _ _ => True,
      fun j _ => (L, nsP [bd "levels" (.ref la), bd "stages" (.ref st), bd "later" (.ref a), bd "level" (.ref x.1), bd "stage" (.ref sa), ("word", none)]) :: (sa, lst ((Gk j).2.map Pt.str)) :: (st, lst (rfs ts)) :: (a, lst ((Gk j).1.map Pt.str)) :: (b2, lst (x.2.map Pt.str).reverse) :: (it0, li b1 (k + 1)) :: (b1, lst (rfs lvs).reverse) :: (la, lst (rfs lvs)) :: (tuL ts ++ (lvL lvs ++ l)),
      ⟨it, (), rfl, trivial, ?_⟩, fun it => src_list (a := b2) fun k l' h => by obtain ⟨_, _, rfl⟩ := h; exact .tail (.tail (.tail (.tail .head))), ?_, ?_⟩
    · try dsimp only
      rw [hG0]
      show Im _ ((it, li b2 0) :: (L, nsP [bd "levels" (.ref la), bd "stages" (.ref st), bd "later" (.ref a), bd "level" (.ref x.1), bd "stage" (.ref sa), ("word", none)]) :: (sa, lst []) :: (st, lst (rfs ts)) :: (a, lst ((Fk k).1.map Pt.str)) :: (b2, lst (x.2.map Pt.str).reverse) :: (it0, li b1 (k + 1)) :: (b1, lst (rfs lvs).reverse) :: (la, lst (rfs lvs)) :: (tuL ts ++ (lvL lvs ++ l)))
      exact imx 9 2282793473417472 9 rfl (by kernel_rfl)
    · intro it1 j _ p KF2 hj _ hp hN2 _ _
      rw [← List.map_reverse] at hp
      obtain ⟨y, hy, rfl⟩ := str_at hp
      have hGs : Gk (j + 1) = stepW (Gk j) y := by rw [hGk]; exact fold_succ hy
      have hgl := stepW_len (x.2.reverse.take j) ((Fk k).1, [])
      have hjl : (x.2.reverse.take j).length ≤ 1000 := Nat.le_trans (List.length_take_le' ..) (by simpa using hxn)
      have hg1 : (Gk j).1.length ≤ 101000 := by rw [hGk]; dsimp only; dsimp only at hgl; omega
      have hg2 : (Gk j).2.length ≤ 1000 := by rw [hGk]; dsimp only; simp only [List.length_nil] at hgl; omega
      try dsimp only
      refine k_asgN ?_
      refine k_store 1 5 en rfl (by kernel_rfl) ?_
      refine k_If ?_
      refine k_tCompare ?_
      refine k_name 1 5 en rfl rfl (by kernel_rfl) ?_
      refine k_name 1 2 en rfl rfl (by kernel_rfl) ?_
      refine k_lnin (.ofL 4 rfl) ?_
      refine k_tb ?_
      refine ⟨fun q => ?_, fun q => ?_⟩
      · refine k_Expr en (by kernel_rfl) ?_
        refine k_append ?_
        refine k_name 1 2 en rfl rfl (by kernel_rfl) ?_
        refine qm 4 rfl ?_
        refine k_meth1 ?_
        refine k_name 1 5 en rfl rfl (by kernel_rfl) ?_
        refine c_append 4 rfl (by first | decide | omega | (simp; omega) | exact Nat.le_of_ble_eq_true rfl | (simp; done)) ?_
        refine ⟨rfl, ?_⟩
        refine k_Expr en (by kernel_rfl) ?_
        refine k_append ?_
        refine k_name 1 4 en rfl rfl (by kernel_rfl) ?_
        refine qm 2 rfl ?_
        refine k_meth1 ?_
        refine k_name 1 5 en rfl rfl (by kernel_rfl) ?_
        refine c_append 2 rfl (by first | decide | omega | (simp; omega) | exact Nat.le_of_ble_eq_true rfl | (simp; done)) ?_
        refine ⟨rfl, ?_⟩
        refine k_nil ?_
        refine nx_next ?_
        refine k_nil ?_
        refine (hN2 _ () trivial ?_).1
        try dsimp only
        rw [hGs, show stepW (Gk j) y = ((Gk j).1 ++ [y], (Gk j).2 ++ [y]) from if_neg (by rw [(Bool.not_eq_true' _).mp q]; decide), List.map_append, List.map_append]
        exact imw 1 1 rfl rfl (Wk.w (.keep (.keep (.keep (.keep (.keep (.forget .refl))))))) (imx 9 2283003892736064 9 rfl (by kernel_rfl))
      · refine k_nil ?_
        refine nx_next ?_
        refine k_nil ?_
        refine (hN2 _ () trivial ?_).1
        try dsimp only
        rw [hGs, show stepW (Gk j) y = Gk j from if_pos ((Bool.not_eq_false' _).mp q)]
        exact imw 1 1 rfl rfl (Wk.w (.keep (.keep (.keep (.keep (.keep (.forget .refl))))))) (imx 9 2283003892736064 9 rfl (by kernel_rfl))
    · intro _ _
      try dsimp only
      have ⟨sg, hsg⟩ : ∃ z, z = (Gk (x.2.map Pt.str).reverse.length).2 := ⟨_, rfl⟩
      have ⟨lg, hlg⟩ : ∃ z, z = (Gk (x.2.map Pt.str).reverse.length).1 := ⟨_, rfl⟩
      rw [← hsg, ← hlg]
      have hgl := stepW_len (x.2.reverse.take (x.2.map Pt.str).reverse.length) ((Fk k).1, [])
      have hjl : (x.2.reverse.take (x.2.map Pt.str).reverse.length).length ≤ 1000 := Nat.le_trans (List.length_take_le' ..) (by simpa using hxn)
      have hg2 : sg.length ≤ 1000 := by rw [hsg, hGk]; dsimp only; simp only [List.length_nil] at hgl; omega
      have hFs : Fk (k + 1) = (lg, (Fk k).2 ++ [sg.reverse]) := by
        rw [hsucc, hsg, hlg, hGk]
        try dsimp only
        rw [List.take_of_length_le (by simp)]
        rfl
      have hr2 : (rfs ts).length = ts.length := by unfold rfs; exact List.length_map ..
      refine k_nil ?_
      refine nx_next ?_
      refine k_Expr en (by kernel_rfl) ?_
      refine k_append ?_
      refine k_name 0 1 en rfl rfl (by kernel_rfl) ?_
      refine qm 2 rfl ?_
      refine k_meth1 ?_
      refine k_tcall (T := "tuple") en (by kernel_rfl) (by kernel_rfl) (by kernel_rfl) ?_
      refine k_items_cons ?_
      refine k_lrev ?_ k_m1
      refine k_name 0 4 en rfl rfl (by kernel_rfl) ?_
      refine ⟨sa, sg.map Pt.str, rfl, .ofL 1 rfl, by rw [List.length_map]; omega, fun b4 => ?_⟩
      refine k_items_nil ?_
      refine c_tupleL 0 rfl (by first | decide | omega | (simp; omega) | exact Nat.le_of_ble_eq_true rfl | (simp; done)) fun a => ?_
      refine c_append 4 rfl (by first | decide | omega | (simp; omega) | exact Nat.le_of_ble_eq_true rfl | (simp; done)) ?_
      refine ⟨rfl, ?_⟩
      refine k_nil ?_
      rw [← List.map_reverse]
      refine (hN1 _ (ts ++ [(a, sg.reverse)]) ?_ ?_).1
      · try dsimp only
        rw [hFs, List.map_append, hts]
        rfl
      · try dsimp only
        rw [hFs, show rfs (ts ++ [(a, sg.reverse)]) = rfs ts ++ [Pt.ref a] from List.map_append .., show tuL (ts ++ [(a, sg.reverse)]) = tuL ts ++ [(a, tup (sg.reverse.map Pt.str))] from List.map_append .., List.append_assoc, List.singleton_append]
        refine imw 2 1 rfl rfl (Wk.w (.keep (.keep (.keep (.forget (.forget .refl)))))) (imxk 6 9799221383 10 rfl (by kernel_rfl) ?_)
        exact .perm (List.perm_middle (l₁ := _ :: _ :: _ :: tuL ts)).symm (.drop (.drop (.drop .refl)))
  · intro ts hts
    have htl : ts.length ≤ 100 := by
      have e := congrArg List.length hts
      rw [List.length_map, hFk] at e
      dsimp only at e
      have e2 := lastStep_len2 (lvs := (lvs.reverse.map (·.2)).take (rfs lvs).reverse.length) ([], [])
      have e3 : ((lvs.reverse.map (·.2)).take (rfs lvs).reverse.length).length ≤ 100 := Nat.le_trans (List.length_take_le' ..) (by simpa using hl)
      simp only [List.length_nil] at e2
      omega
    have hr2 : (rfs ts).length = ts.length := by unfold rfs; exact List.length_map ..
    refine k_nil ?_
    refine nx_next ?_
    refine k_Return ?_
    refine k_lrev ?_ k_m1
    refine k_name 0 1 en rfl rfl (by kernel_rfl) ?_
    refine ⟨st, rfs ts, rfl, .ofL 1 rfl, by omega, fun b3 => ?_⟩
    refine hR _ _ _ ?_ (h b3 ts.reverse ?_)
    · rw [rfs_rev]
      exact .tl (.drop (.drop (.drop (.drop (.perm (List.perm_middle.symm.trans (List.Perm.append_right _ ((List.reverse_perm ts).symm.map _))) .refl)))))
    · unfold lastW lastGo
      rw [List.map_reverse, hts, hFk]
      try dsimp only
      rw [List.take_of_length_le (by simp [rfs]), List.map_reverse]
end
noncomputable def lexD (ln : Int) (fp pb : Addr) : Loc := [bd "lineno" (.int ln), bd "instream" (.ref fp), bd "whitespace" (.str [10, 9, 13, 32]), bd "pushback" (.ref pb)]
section
variable {G : Gr} {w : World} {l : List Ent} {n : Nat} {KV : Pt → List Ent → Prop}
theorem s_push {X D fp pb : Addr} {ln : Int} {ys : List Word} {y : Word} (B : Bx G w 1) (hz : ys.length ≤ 100000)
    (h : KV .none ((X, inst 179 D []) :: (D, dicP (lexD ln fp pb)) :: (pb, lst ((ys ++ [y]).map Pt.str)) :: l)) :
    WC B ((X, inst 179 D []) :: (D, dicP (lexD ln fp pb)) :: (pb, lst (ys.map Pt.str)) :: l) (.ref 176) [.ref X, .str y] KV := by
  refine k_enter (fd := f176) (body := fBody (cst 8 3)) (by kernel_rfl) (by kernel_rfl) (by kernel_rfl) (by kernel_rfl) (by kernel_rfl) (by kernel_rfl) (by kernel_rfl) (bind2 (x := "self") (y := "token") fun v u => by kernel_rfl) fun L env B KF en hR hN => ?_
  refine k_Expr en (by kernel_rfl) ?_
  refine k_append ?_
  refine k_Attr ?_
  refine k_name 0 1 en rfl rfl (by kernel_rfl) ?_
  refine k_getD 1 3 2 rfl rfl rfl (by kernel_rfl) ?_
  refine qm 3 rfl ?_
  refine k_meth1 ?_
  refine k_name 0 0 en rfl rfl (by kernel_rfl) ?_
  refine c_append 3 rfl (by first | decide | omega | (simp; omega) | exact Nat.le_of_ble_eq_true rfl | (simp; done)) ?_
  refine ⟨rfl, ?_⟩
  refine k_nil ?_
  rw [List.map_append] at h
  refine hN _ _ ?_ h
  exact imx 3 12417 4 rfl (by kernel_rfl)
theorem s_gotpush {X D fp pb : Addr} {ln : Int} {ys : List Word} {y : Word} (B : Bx G w 1) (hz : ys.length ≤ 100000)
    (h : KV (.str y) ((X, inst 179 D []) :: (D, dicP (lexD ln fp pb)) :: (pb, lst (ys.map Pt.str)) :: l)) :
    WC B ((X, inst 179 D []) :: (D, dicP (lexD ln fp pb)) :: (pb, lst ((y :: ys).map Pt.str)) :: l) (.ref 169) [.ref X] KV := by
  refine k_enter (fd := f169) (body := fBody (cst 8 2)) (by kernel_rfl) (by kernel_rfl) (by kernel_rfl) (by kernel_rfl) (by kernel_rfl) (by kernel_rfl) (by kernel_rfl) (bind1 (x := "self") fun v => by kernel_rfl) fun L env B KF en hR hN => ?_
  refine k_If ?_
  refine k_tVal ?_
  refine k_Attr ?_
  refine k_name 0 0 en rfl rfl (by kernel_rfl) ?_
  refine k_getD 1 3 2 rfl rfl rfl (by kernel_rfl) ?_
  refine k_tlist 3 rfl (by first | decide | omega | (simp; omega) | exact Nat.le_of_ble_eq_true rfl | (simp; done)) ?_
  refine ⟨fun _ => ?_, fun e => Bool.noConfusion (show true = false from e)⟩
  refine k_Return ?_
  refine k_lmeth PySem.F.slot_list_pop PySem.F.type_list_pop ?_
  refine k_Attr ?_
  refine k_name 0 0 en rfl rfl (by kernel_rfl) ?_
  refine k_getD 1 3 2 rfl rfl rfl (by kernel_rfl) ?_
  refine qm 3 rfl ?_
  refine k_meth1 ?_
  refine k_int ?_
  refine c_pop0 3 rfl (by first | decide | omega | (simp; omega) | exact Nat.le_of_ble_eq_true rfl | (simp; done)) ?_
  refine nx_ret ?_
  refine hR _ _ _ ?_ h
  exact imx 3 12417 4 rfl (by kernel_rfl)
end
noncomputable abbrev Bl := List (Word × Addr × List Word)
noncomputable def blD (bl : Bl) : List (List Nat × Pt) := bl.map fun x => (x.1, Pt.ref x.2.1)
noncomputable def chW (bl : Bl) (y : Word) : List Word := ((bl.find? (·.1 == y)).map (·.2.2)).getD []
noncomputable def shownW (bl : Bl) : List Word := bl.flatMap (·.2.2)
noncomputable def rootsW (bl : Bl) : List Word := (bl.map (·.1)).filter fun y => !((shownW bl).any (· == y))
noncomputable def nextW (bl : Bl) (q : List Word) : List Word := q.flatMap (chW bl)
noncomputable def iterW (bl : Bl) : Nat → List Word
  | 0 => rootsW bl
  | k + 1 => nextW bl (iterW bl k)
noncomputable def levelsW (bl : Bl) (N : Nat) : List (List Word) := (List.range N).map (iterW bl)
theorem bl_at {bl : Bl} {k : Nat} {y : Word} {q : Pt} (h : (blD bl)[k]? = some (y, q)) : ∃ x, bl[k]? = some x ∧ x.1 = y ∧ q = .ref x.2.1 := by
  unfold blD at h
  rw [List.getElem?_map] at h
  cases e : bl[k]? with
  | none => rw [e] at h; cases h
  | some x => rw [e] at h; cases h; exact ⟨x, rfl, rfl, rfl⟩
theorem bl_find {bl : Bl} {x : Word × Addr × List Word} (hnd : (bl.map (·.1)).Nodup) (hx : x ∈ bl) : bl.find? (·.1 == x.1) = some x := by
  induction bl with
  | nil => cases hx
  | cons z bl ih =>
    rw [List.map_cons, List.nodup_cons] at hnd
    rw [List.find?_cons]
    rcases List.mem_cons.mp hx with rfl | hx
    · simp
    · have : (z.1 == x.1) = false := by
        cases e : z.1 == x.1 with
        | false => rfl
        | true => exact absurd (List.mem_map.mpr ⟨x, hx, (eq_of_beq e).symm⟩) hnd.1
      rw [this]
      exact ih hnd.2 hx
theorem atK_bl {bl : Bl} {x : Word × Addr × List Word} (hnd : (bl.map (·.1)).Nodup) (hx : x ∈ bl) : atK (blD bl) x.1 = some (.ref x.2.1) := by
  unfold atK blD
  rw [List.find?_map]
  show (((bl.find? (·.1 == x.1)).map _).map _) = _
  rw [bl_find hnd hx]
  rfl
theorem chW_of {bl : Bl} {x : Word × Addr × List Word} (hnd : (bl.map (·.1)).Nodup) (hx : x ∈ bl) : chW bl x.1 = x.2.2 := by
  unfold chW
  rw [bl_find hnd hx]
  rfl
theorem shownW_succ {bl : Bl} {k : Nat} {x : Word × Addr × List Word} (h : bl[k]? = some x) : shownW (bl.take (k + 1)) = shownW (bl.take k) ++ x.2.2 := by
  unfold shownW
  rw [List.take_succ, h, List.flatMap_append]
  simp
theorem shownW_len : ∀ {bl : Bl}, (∀ x ∈ bl, x.2.2.length ≤ 1000) → (shownW bl).length ≤ bl.length * 1000
  | [], _ => by simp [shownW]
  | x :: bl, h => by
    have h1 := shownW_len (bl := bl) fun y hy => h y (.tail _ hy)
    have h2 := h x (.head _)
    unfold shownW at *
    rw [List.flatMap_cons, List.length_append, List.length_cons, Nat.succ_mul]
    omega
theorem iterW_keys {bl : Bl} (hk : ∀ x ∈ bl, ∀ y ∈ x.2.2, y ∈ bl.map (·.1)) : ∀ k, ∀ y ∈ iterW bl k, y ∈ bl.map (·.1)
  | 0, y, h => (List.mem_filter.mp h).1
  | k + 1, y, h => by
    obtain ⟨z, _, hz⟩ := List.mem_flatMap.mp h
    unfold chW at hz
    cases e : bl.find? (·.1 == z) with
    | none => rw [e] at hz; cases hz
    | some x => rw [e] at hz; exact hk x (List.mem_of_find?_eq_some e) y hz
noncomputable def midW (bl : Bl) (q : List Word) (j : Nat) : List Word := q.drop j ++ (q.take j).flatMap (chW bl)
theorem midW_at {bl : Bl} {q : List Word} {j : Nat} {y : Word} (h : q[j]? = some y) : midW bl q j = y :: (q.drop (j + 1) ++ (q.take j).flatMap (chW bl)) := by
  unfold midW
  obtain ⟨hj, rfl⟩ := List.getElem?_eq_some_iff.mp h
  rw [List.drop_eq_getElem_cons hj]
  rfl
theorem midW_succ {bl : Bl} {q : List Word} {j : Nat} {y : Word} (h : q[j]? = some y) : midW bl q (j + 1) = (q.drop (j + 1) ++ (q.take j).flatMap (chW bl)) ++ chW bl y := by
  unfold midW
  rw [flat_succ h, List.append_assoc]
theorem flat_mono {f : Word → List Word} : ∀ (q : List Word) (j : Nat), ((q.take j).flatMap f).length ≤ (q.flatMap f).length
  | [], j => by simp
  | y :: q, 0 => by simp
  | y :: q, j + 1 => by
    have := flat_mono (f := f) q j
    rw [List.take_succ_cons, List.flatMap_cons, List.flatMap_cons, List.length_append, List.length_append]
    omega
theorem midW_len (bl : Bl) (q : List Word) (j : Nat) : (midW bl q j).length ≤ q.length + (nextW bl q).length := by
  have h1 := flat_mono (f := chW bl) q j
  unfold midW nextW
  rw [List.length_append, List.length_drop]
  omega
theorem midW_end (bl : Bl) (q : List Word) : midW bl q q.length = nextW bl q := by
  unfold midW nextW
  rw [List.drop_length, List.take_length]
  rfl
noncomputable def rootsT (bl : Bl) (k : Nat) : List Word := ((bl.take k).map (·.1)).filter fun y => !((shownW bl).any (· == y))
theorem rootsT_succ {bl : Bl} {k : Nat} {x : Word × Addr × List Word} (h : bl[k]? = some x) : rootsT bl (k + 1) = rootsT bl k ++ if !((shownW bl).any (· == x.1)) then [x.1] else [] := by
  unfold rootsT
  rw [List.take_succ, h, List.map_append, List.filter_append]
  simp only [Option.toList_some, List.map_cons, List.map_nil, List.filter_cons, List.filter_nil]
theorem rootsT_len (bl : Bl) (k : Nat) : (rootsT bl k).length ≤ bl.length := by
  unfold rootsT
  exact Nat.le_trans (List.length_filter_le ..) (by simp; omega)
theorem Im.pre {m m' : List Ent} (h : Im m m') : ∀ A : List Ent, Im (A ++ m) (A ++ m')
  | [] => h
  | _ :: A => .tl (Im.pre h A)
section
variable {G : Gr} {w : World} {l : List Ent} {n : Nat} {KV : Pt → List Ent → Prop}
theorem k_iterI {B : Bx G w n} {a : Addr} {vs : List Pt} (hL : Has a (lst vs) l) (h : ∀ it, KV (.ref it) ((it, li a 0) :: l)) : WV1 B l pyIter (.ref a) KV := fun v hv s F => by
  cases hv
  obtain ⟨us, ok, el⟩ := isL F hL
  exact wpAny_pyIter_list el (vi okR (F.push (P := li a 0) ⟨rfl, rfl⟩ rfl) (h _))
theorem k_iterE {B : Bx G w n} {d : Addr} {ks : List (List Nat × Pt)} {ep : Nat} (hE : Has d (dctE w ks ep) l) (h : ∀ it, KV (.ref it) ((it, ki d ks.length ep 0) :: l)) : WV1 B l pyIter (.ref d) KV := fun v hv s F => by
  cases hv
  obtain ⟨kv, hk, hd⟩ := F.dictE hE
  exact wpAny_pyIter_dict (notSys B F hE) hd (vi okR (F.push (P := ki d ks.length ep 0) (t := s.toks) ⟨rfl, by rw [hk.len]; rfl⟩ rfl) (h _))
theorem k_gt {B : Bx G w n} {a b : Int} (h : KV (.bool (decide (b < a))) l) : WV2 B l (compareOp .Gt) (.int a) (.int b) KV := op2b (fun _ _ _ _ _ q => gt_int q) h
theorem s_levels {X D fp pb d : Addr} {ln : Int} {bl : Bl} {N : Nat} (B : Bx G w 4) (hN9 : N ≤ 100) (hE : iterW bl N = []) (hE2 : ∀ k < N, iterW bl k ≠ []) (hz : ∀ k, (iterW bl k).length ≤ 1000) (hb : bl.length ≤ 5) (hnd : (bl.map (·.1)).Nodup) (hk0 : ∀ x ∈ bl, ∀ y ∈ x.2.2, y ∈ bl.map (·.1)) (hc : ∀ x ∈ bl, x.2.2.length ≤ 1000)
    (h : ∀ a lvs, lvs.map (·.2) = levelsW bl N → KV (.ref a) ((a, lst (rfs lvs)) :: (lvL lvs ++ ((X, inst 179 D []) :: (D, dicP (lexD ln fp pb)) :: (pb, lst []) :: (d, dct w (blD bl)) :: (lvL (bl.map (·.2)) ++ l))))) :
    WC B ((X, inst 179 D []) :: (D, dicP (lexD ln fp pb)) :: (pb, lst []) :: (d, dct w (blD bl)) :: (lvL (bl.map (·.2)) ++ l)) (.ref 275) [.ref X, .ref d] KV := by
  refine k_enterC (fd := f275) (names := ["lex", "below"]) (body := fBody st39) (by kernel_rfl) (by kernel_rfl) (by kernel_rfl) (by kernel_rfl) (by kernel_rfl) (by kernel_rfl) (by kernel_rfl)
    (fun vs hv => by
      cases hv with | cons h1 hv =>
      cases hv with | cons h2 hv =>
      cases hv
      exact ⟨[(_, _), (_, _)], by kernel_rfl, rfl, rfl⟩) fun L cs env B B1 KF en hcs hR hN => ?_
  obtain ⟨as, ha1, rfl⟩ := cs_of (names := ["below"]) (hcs.trans (by kernel_rfl))
  match as, ha1 with
  | [a1], _ =>
  refine wbs_cons ?_
  refine k_store 1 0 en rfl (by kernel_rfl) ?_
  refine wbs_cons ?_
  refine k_storeC 0 en rfl rfl (by kernel_rfl) ?_
  refine wbs_nil ?_
  refine k_AsgListComp [("below", a1)] en rfl (by kernel_rfl) (by kernel_rfl) ?_
  refine k_cell 0 en rfl rfl (by kernel_rfl) ?_
  refine k_iterD 5 rfl fun it ep => ?_
  refine ⟨it, rfl, fun acc C env2 en2 => ?_⟩
  refine k_comp01 (α := Unit) (ifs := []) (blD bl).length (fun k => ki d (blD bl).length ep k) (fun k p => ∃ y q, (blD bl)[k]? = some (y, q) ∧ p = .str y) (fun _ _ => True)
    (fun k _ => (C, nsP [("word", none), ("other", none)]) :: (acc, lst ((shownW (bl.take k)).map Pt.str)) :: (a1, cel (some (.ref d))) :: (L, nsP [bd "lex" (.ref X)]) :: (X, inst 179 D []) :: (D, dicP (lexD ln fp pb)) :: (pb, lst []) :: (d, dctE w (blD bl) ep) :: (lvL (bl.map (·.2)) ++ l))
    (fun it => src_key fun k l' h => by obtain ⟨_, _, rfl⟩ := h; exact .tail (.tail (.tail (.tail (.tail (.tail (.tail .head))))))) ?_ ?_ it () trivial ?_ ?_
  · intro it0 k _ p K2 hk _ hp hK2
    obtain ⟨y, q, hy, rfl⟩ := hp
    obtain ⟨x, hx, rfl, rfl⟩ := bl_at hy
    have hxm := List.mem_of_getElem? hx
    have hat := atK_bl hnd hxm
    have hH : ∀ (e0 e1 e2 e3 e4 e5 e6 e7 e8 : Ent), Has x.2.1 (lst (x.2.2.map Pt.str)) (e0 :: e1 :: e2 :: e3 :: e4 :: e5 :: e6 :: e7 :: e8 :: (lvL (bl.map (·.2)) ++ l)) := fun _ _ _ _ _ _ _ _ _ =>
      .tail (.tail (.tail (.tail (.tail (.tail (.tail (.tail (.tail (Has.left (lvL_has (List.mem_map.mpr ⟨x, hxm, rfl⟩)) l)))))))))
    refine k_asgTN ?_
    refine k_store 1 0 en2 rfl (by kernel_rfl) ?_
    refine k_Subscript ?_
    refine k_cell 3 en2 rfl rfl (by kernel_rfl) ?_
    refine k_name 1 0 en2 rfl rfl (by kernel_rfl) ?_
    refine k_dgetD (.ofE 8 rfl) (by assumption) ?_
    refine k_iterI (hH _ _ _ _ _ _ _ _ _) fun it => ?_
    refine ⟨it, rfl, ?_⟩
    have hb1 : (shownW (bl.take k)).length ≤ 5000 := by
      have h1 := shownW_len (bl := bl.take k) fun y hy => hc y (List.mem_of_mem_take hy)
      have h2 : (bl.take k).length ≤ 5 := Nat.le_trans (List.length_take_le' ..) hb
      omega
    have hxc := hc x hxm
    refine k_comp2 (α := Unit) (x.2.2.map Pt.str).length (fun k => li x.2.1 k) (fun k p => (x.2.2.map Pt.str)[k]? = some p) (fun _ _ => True)
      (fun j _ => (C, nsP [("word", none), ("other", none)]) :: (acc, lst ((shownW (bl.take k) ++ x.2.2.take j).map Pt.str)) :: (it0, ki d (blD bl).length ep (k + 1)) :: (a1, cel (some (.ref d))) :: (L, nsP [bd "lex" (.ref X)]) :: (X, inst 179 D []) :: (D, dicP (lexD ln fp pb)) :: (pb, lst []) :: (d, dctE w (blD bl) ep) :: (lvL (bl.map (·.2)) ++ l))
      (fun it => src_list (a := x.2.1) fun k l' h => by obtain ⟨_, _, rfl⟩ := h; exact hH _ _ _ _ _ _ _ _ _) ?_ ?_ it () trivial ?_ (self_li 0 rfl)
    · intro it1 j _ p K3 hj _ hp hK3
      obtain ⟨o, ho, rfl⟩ := str_at hp
      have hb2 : ((shownW (bl.take k) ++ x.2.2.take j).map Pt.str).length ≤ 6000 := by
        have : (x.2.2.take j).length ≤ 1000 := Nat.le_trans (List.length_take_le' ..) hxc
        rw [List.length_map, List.length_append]; omega
      refine k_asgTN ?_
      refine k_store 1 1 en2 rfl (by kernel_rfl) ?_
      refine wifs_nil ?_
      refine k_name 1 1 en2 rfl rfl (by kernel_rfl) ?_
      refine c_append 2 rfl (by first | decide | omega | (simp; omega) | exact Nat.le_of_ble_eq_true rfl | (simp; done)) ?_
      refine hK3 _ () trivial ?_
      rw [List.take_succ, ho, Option.toList_some, ← List.append_assoc, List.map_append (l₂ := [o])]
      exact imw 1 1 rfl rfl (Wk.w (.keep (.forget .refl))) (imx 10 164412590478073920 10 rfl (by kernel_rfl))
    · intro _ _
      refine hK2 _ () trivial ?_
      rw [shownW_succ hx, List.length_map, List.take_length]
      exact imx 9 2283003892731906 9 rfl (by kernel_rfl)
    · rw [List.take_zero, List.append_nil]
      exact imw 2 1 rfl rfl (Wk.w (.forget .refl)) (imx 10 164412590477553792 10 rfl (by kernel_rfl))
  · intro _ _
    rw [show bl.take (blD bl).length = bl from List.take_of_length_le (by simp [blD])]
    have hsl : (shownW bl).length ≤ 5000 := by
      have h1 := shownW_len hc
      omega
    refine k_store 3 1 en rfl (by kernel_rfl) ?_
    refine k_endC (.keep .head .refl) ?_
    refine k_forQ ?_
    refine k_cell 1 en rfl rfl (by kernel_rfl) ?_
    refine k_iterE (.tail (.tail (.tail (.tail (.tail (.tail .head)))))) fun it => ?_
    refine ⟨Unit, (blD bl).length, fun k => ki d (blD bl).length ep k, fun k p => ∃ y q, (blD bl)[k]? = some (y, q) ∧ p = .str y, fun _ _ => True,
      fun k _ => (L, nsP [bd "lex" (.ref X), bd "shown" (.ref acc), ("word", none)]) :: (acc, lst ((shownW bl).map Pt.str)) :: (a1, cel (some (.ref d))) :: (X, inst 179 D []) :: (D, dicP (lexD ln fp pb)) :: (pb, lst ((rootsT bl k).map Pt.str)) :: (d, dctE w (blD bl) ep) :: (lvL (bl.map (·.2)) ++ l),
      ⟨it, (), rfl, trivial, ?_⟩, fun it => src_key fun k l' h => by obtain ⟨_, _, rfl⟩ := h; exact .tail (.tail (.tail (.tail (.tail (.tail .head))))), ?_, ?_⟩
    · try dsimp only
      show Im _ (_ :: _ :: _ :: _ :: _ :: _ :: (pb, lst []) :: _)
      exact imw 3 1 rfl rfl (Wk.w (.keep (.keep (.new .refl)))) (imx 8 31204078784704 8 rfl (by kernel_rfl))
    · intro it0 k _ p KF1 hk _ hp hN1 _ _
      obtain ⟨y, q, hy, rfl⟩ := hp
      obtain ⟨x, hx, rfl, rfl⟩ := bl_at hy
      have hrl : (rootsT bl k).length ≤ 100000 := Nat.le_trans (rootsT_len bl k) (by omega)
      try dsimp only
      refine k_asgN ?_
      refine k_store 1 2 en rfl (by kernel_rfl) ?_
      refine k_If ?_
      refine k_tCompare ?_
      refine k_name 1 2 en rfl rfl (by kernel_rfl) ?_
      refine k_name 1 1 en rfl rfl (by kernel_rfl) ?_
      refine k_lnin (.ofL 2 rfl) ?_
      refine k_tb ?_
      refine ⟨fun q => ?_, fun q => ?_⟩
      · refine k_Expr en (by kernel_rfl) ?_
        refine k_imeth (f := 176) (fd := f176) ?_
        refine k_name 1 0 en rfl rfl (by kernel_rfl) ?_
        refine qim 4 5 rfl rfl (by kernel_rfl) (by kernel_rfl) (by kernel_rfl) ?_
        refine k_items_cons ?_
        refine k_name 1 2 en rfl rfl (by kernel_rfl) ?_
        refine k_items_nil ?_
        refine WC.im (.keep (.tail (.tail (.tail (.tail .head)))) (.keep (.tail (.tail (.tail (.tail .head)))) (.keep (.tail (.tail (.tail (.tail .head)))) .refl))) (s_push (B.le (by decide)) (by assumption) ?_)
        refine ⟨rfl, ?_⟩
        refine k_nil ?_
        refine nx_next ?_
        refine k_nil ?_
        refine (hN1 _ () trivial ?_).1
        try dsimp only
        rw [rootsT_succ hx, if_pos q]
        exact imw 4 1 rfl rfl (Wk.w (.keep (.keep (.forget .refl)))) (imx 8 30924839866627 8 rfl (by kernel_rfl))
      · refine k_nil ?_
        refine nx_next ?_
        refine k_nil ?_
        refine (hN1 _ () trivial ?_).1
        try dsimp only
        rw [rootsT_succ hx, if_neg (by rw [q]; decide), List.append_nil]
        exact imw 1 1 rfl rfl (Wk.w (.keep (.keep (.forget .refl)))) (imx 8 31204079050816 8 rfl (by kernel_rfl))
    · intro _ _
      try dsimp only
      have hr0 : rootsT bl (blD bl).length = iterW bl 0 := by
        show rootsT bl _ = rootsW bl
        unfold rootsT rootsW
        rw [List.take_of_length_le (by simp [blD])]
      have hz0 := hz 0
      rw [hr0]
      refine k_nil ?_
      refine nx_next ?_
      refine k_Assign ?_
      refine k_List ?_
      refine k_items_nil ?_
      refine ⟨Nat.le_of_ble_eq_true rfl, fun a => ?_⟩
      refine k_store 1 3 en rfl (by kernel_rfl) ?_
      refine k_Assign ?_
      refine k_bcall (id := "len") en (by kernel_rfl) (by kernel_rfl) (by kernel_rfl) ?_
      refine k_items_cons ?_
      refine k_Attr ?_
      refine k_name 1 0 en rfl rfl (by kernel_rfl) ?_
      refine k_getD 4 3 5 rfl rfl rfl (by kernel_rfl) ?_
      refine k_items_nil ?_
      refine c_len (.ofL 6 rfl) (by first | decide | omega | (simp; omega) | exact Nat.le_of_ble_eq_true rfl | (simp; done)) ?_
      refine k_store 1 4 en rfl (by kernel_rfl) ?_
      refine k_While (α := { x : Nat × List (Addr × List Word) // x.1 ≤ N ∧ x.2.map (·.2) = levelsW bl x.1 }) (fun x => N - x.1.1)
        (fun x => (L, nsP [bd "lex" (.ref X), bd "shown" (.ref acc), ("word", none), bd "levels" (.ref a), bd "size" (.int (iterW bl x.1.1).length), ("level", none), ("turn", none), ("other", none)]) :: (a, lst (rfs x.1.2)) :: (a1, cel (some (.ref d))) :: (X, inst 179 D []) :: (D, dicP (lexD ln fp pb)) :: (pb, lst ((iterW bl x.1.1).map Pt.str)) :: (d, dctE w (blD bl) ep) :: (lvL x.1.2 ++ (lvL (bl.map (·.2)) ++ l)))
        (fun ⟨⟨k, lvs⟩, hk, hlv⟩ KF1 hN1 _ _ => ?_) ⟨⟨0, []⟩, Nat.zero_le _, rfl⟩ ?_
      · try dsimp only
        have hlk : (iterW bl k).length ≤ 1000 := hz k
        have hnx : (nextW bl (iterW bl k)).length ≤ 1000 := hz (k + 1)
        refine k_tCompare ?_
        refine k_name 0 4 en rfl rfl (by kernel_rfl) ?_
        refine k_int ?_
        refine k_gt ?_
        refine k_tb ?_
        refine ⟨fun q => ?_, fun q => ?_⟩
        · have hkN : k < N := by
            rcases Nat.lt_or_ge k N with h1 | h1
            · exact h1
            · have : k = N := Nat.le_antisymm hk h1
              subst this
              rw [hE] at q
              exact absurd q (by decide)
          refine k_Assign ?_
          refine k_List ?_
          refine k_items_nil ?_
          refine ⟨Nat.le_of_ble_eq_true rfl, fun lv => ?_⟩
          refine k_store 1 5 en rfl (by kernel_rfl) ?_
          refine k_forR (α := Unit) (iterW bl k).length (fun _ _ => True)
            (fun j _ => (L, nsP [bd "lex" (.ref X), bd "shown" (.ref acc), ("word", none), bd "levels" (.ref a), bd "size" (.int (iterW bl k).length), bd "level" (.ref lv), ("turn", none), ("other", none)]) :: (lv, lst (((iterW bl k).take j).map Pt.str)) :: (a, lst (rfs lvs)) :: (a1, cel (some (.ref d))) :: (X, inst 179 D []) :: (D, dicP (lexD ln fp pb)) :: (pb, lst ((midW bl (iterW bl k) j).map Pt.str)) :: (d, dctE w (blD bl) ep) :: (lvL lvs ++ (lvL (bl.map (·.2)) ++ l))) en (by kernel_rfl) ?_ ?_ ?_
          · refine k_name 1 4 en rfl rfl (by kernel_rfl) ?_
            refine ⟨rfl, by omega, (), trivial, ?_⟩
            show Im _ (_ :: (lv, lst []) :: _)
            rw [show midW bl (iterW bl k) 0 = iterW bl k by unfold midW; simp]
            exact imx 8 31204079050753 8 rfl (by kernel_rfl)
          · intro it0 j _ KF2 hj _ hN2 _ _
            have ⟨x, hxm, hx1⟩ := List.mem_map.mp (iterW_keys hk0 k _ (List.mem_of_getElem? (List.getElem?_eq_getElem hj)))
            have hy : (iterW bl k)[j]? = some x.1 := by rw [List.getElem?_eq_getElem hj, hx1]
            have hml := midW_len bl (iterW bl k) j
            have hat := atK_bl hnd hxm
            have hxc := hc x hxm
            have htk : ((iterW bl k).take j).length ≤ 1000 := Nat.le_trans (List.length_take_le' ..) hlk
            have hms := midW_succ (bl := bl) hy
            rw [chW_of hnd hxm] at hms
            rw [midW_at hy] at hml ⊢
            have ⟨ys, hys⟩ : ∃ z, z = (iterW bl k).drop (j + 1) ++ ((iterW bl k).take j).flatMap (chW bl) := ⟨_, rfl⟩
            rw [← hys] at hml hms ⊢
            have hyl : ys.length ≤ 2000 := by rw [List.length_cons] at hml; omega
            have hyl2 : ys.length ≤ 100000 := Nat.le_trans hyl (by decide)
            have hH : ∀ (e0 e1 e2 e3 e4 e5 e6 e7 e8 : Ent), Has x.2.1 (lst (x.2.2.map Pt.str)) (e0 :: e1 :: e2 :: e3 :: e4 :: e5 :: e6 :: e7 :: e8 :: (lvL lvs ++ (lvL (bl.map (·.2)) ++ l))) := fun _ _ _ _ _ _ _ _ _ =>
              .tail (.tail (.tail (.tail (.tail (.tail (.tail (.tail (.tail (Has.right (Has.left (lvL_has (List.mem_map.mpr ⟨x, hxm, rfl⟩)) l) (lvL lvs))))))))))
            refine k_asgN ?_
            refine k_store 1 6 en rfl (by kernel_rfl) ?_
            refine k_Assign ?_
            refine k_imeth0 (f := 169) (fd := f169) ?_
            refine k_name 1 0 en rfl rfl (by kernel_rfl) ?_
            refine qim 5 6 rfl rfl (by kernel_rfl) (by kernel_rfl) (by kernel_rfl) ?_
            refine WC.im (.keep (.tail (.tail (.tail (.tail (.tail .head))))) (.keep (.tail (.tail (.tail (.tail (.tail .head))))) (.keep (.tail (.tail (.tail (.tail (.tail .head))))) .refl))) (s_gotpush (B.le (by decide)) (by assumption) ?_)
            refine k_store 4 2 en rfl (by kernel_rfl) ?_
            refine k_Expr en (by kernel_rfl) ?_
            refine k_append ?_
            refine k_name 4 5 en rfl rfl (by kernel_rfl) ?_
            refine qm 5 rfl ?_
            refine k_meth1 ?_
            refine k_name 4 2 en rfl rfl (by kernel_rfl) ?_
            refine c_append 5 rfl (by first | decide | omega | (simp; omega) | exact Nat.le_of_ble_eq_true rfl | (simp; done)) ?_
            refine ⟨rfl, ?_⟩
            refine k_forQ ?_
            refine k_Subscript ?_
            refine k_cell 7 en rfl rfl (by kernel_rfl) ?_
            refine k_name 4 2 en rfl rfl (by kernel_rfl) ?_
            refine k_dgetD (.ofE 8 rfl) (by assumption) ?_
            refine k_iterI (hH _ _ _ _ _ _ _ _ _) fun it => ?_
            refine ⟨Unit, (x.2.2.map Pt.str).length, fun i => li x.2.1 i, fun i p => (x.2.2.map Pt.str)[i]? = some p, fun _ _ => True,
              fun i _ => (L, nsP [bd "lex" (.ref X), bd "shown" (.ref acc), ("word", none), bd "levels" (.ref a), bd "size" (.int (iterW bl k).length), bd "level" (.ref lv), ("turn", none), ("other", none)]) :: (X, inst 179 D []) :: (D, dicP (lexD ln fp pb)) :: (pb, lst ((ys ++ x.2.2.take i).map Pt.str)) :: (it0, ri ((j + 1 : Nat) : Int) (((iterW bl k).length : Int) - ((j + 1 : Nat) : Int)) 1) :: (lv, lst (((iterW bl k).take j).map Pt.str ++ [Pt.str x.1])) :: (a, lst (rfs lvs)) :: (a1, cel (some (.ref d))) :: (d, dctE w (blD bl) ep) :: (lvL lvs ++ (lvL (bl.map (·.2)) ++ l)),
              ⟨it, (), rfl, trivial, ?_⟩, fun it => src_list (a := x.2.1) fun k l' h => by obtain ⟨_, _, rfl⟩ := h; exact hH _ _ _ _ _ _ _ _ _, ?_, ?_⟩
            · try dsimp only
              rw [List.take_zero, List.append_nil]
              exact imw 5 1 rfl rfl (Wk.w (.keep (.keep (.forget (.keep (.keep (.keep (.forget .refl)))))))) (imx 10 164412589387288896 10 rfl (by kernel_rfl))
            · intro it1 i _ p KF3 hi _ hp hN3 _ _
              obtain ⟨o, ho, rfl⟩ := str_at hp
              have hb3 : (ys ++ x.2.2.take i).length ≤ 100000 := by
                have : (x.2.2.take i).length ≤ 1000 := Nat.le_trans (List.length_take_le' ..) hxc
                rw [List.length_append]; omega
              try dsimp only
              refine k_asgN ?_
              refine k_store 1 7 en rfl (by kernel_rfl) ?_
              refine k_Expr en (by kernel_rfl) ?_
              refine k_imeth (f := 176) (fd := f176) ?_
              refine k_name 1 0 en rfl rfl (by kernel_rfl) ?_
              refine qim 2 3 rfl rfl (by kernel_rfl) (by kernel_rfl) (by kernel_rfl) ?_
              refine k_items_cons ?_
              refine k_name 1 7 en rfl rfl (by kernel_rfl) ?_
              refine k_items_nil ?_
              refine WC.im (.keep (.tail (.tail .head)) (.keep (.tail (.tail .head)) (.keep (.tail (.tail .head)) .refl))) (s_push (B.le (by decide)) (by assumption) ?_)
              refine ⟨rfl, ?_⟩
              refine k_nil ?_
              refine (hN3 _ () trivial ?_).1
              try dsimp only
              rw [List.take_succ, ho, Option.toList_some, ← List.append_assoc ys]
              exact imw 4 1 rfl rfl (Wk.w (.keep (.keep (.keep (.keep (.keep (.keep (.keep (.forget .refl))))))))) (imx 10 164412590443987203 10 rfl (by kernel_rfl))
            · intro _ _
              try dsimp only
              rw [List.length_map, List.take_length, ← hms]
              refine k_nil ?_
              refine nx_next ?_
              refine k_nil ?_
              refine (hN2 _ () trivial ?_).1
              rw [List.take_succ (i := j), hy, Option.toList_some, List.map_append]
              exact imx 9 2265132584947716 9 rfl (by kernel_rfl)
          · intro _ _
            rw [midW_end, List.take_length]
            have hll : lvs.length = k := by
              have := congrArg List.length hlv
              rw [List.length_map] at this
              rw [this]; simp [levelsW]
            have hr : (rfs lvs).length ≤ 100 := by unfold rfs; rw [List.length_map]; omega
            refine k_nil ?_
            refine nx_next ?_
            refine k_Expr en (by kernel_rfl) ?_
            refine k_append ?_
            refine k_name 0 3 en rfl rfl (by kernel_rfl) ?_
            refine qm 2 rfl ?_
            refine k_meth1 ?_
            refine k_name 0 5 en rfl rfl (by kernel_rfl) ?_
            refine c_append 2 rfl (by first | decide | omega | (simp; omega) | exact Nat.le_of_ble_eq_true rfl | (simp; done)) ?_
            refine ⟨rfl, ?_⟩
            refine k_Assign ?_
            refine k_bcall (id := "len") en (by kernel_rfl) (by kernel_rfl) (by kernel_rfl) ?_
            refine k_items_cons ?_
            refine k_Attr ?_
            refine k_name 0 0 en rfl rfl (by kernel_rfl) ?_
            refine k_getD 4 3 5 rfl rfl rfl (by kernel_rfl) ?_
            refine k_items_nil ?_
            refine c_len (.ofL 6 rfl) (by first | decide | omega | (simp; omega) | exact Nat.le_of_ble_eq_true rfl | (simp; done)) ?_
            refine k_store 0 4 en rfl (by kernel_rfl) ?_
            refine k_nil ?_
            refine (hN1 _ ⟨⟨k + 1, lvs ++ [(lv, iterW bl k)]⟩, hkN, ?_⟩ ?_ ?_).1
            · rw [List.map_append, hlv]
              unfold levelsW
              rw [List.range_succ, List.map_append]
              rfl
            · show N - (k + 1) < N - k
              omega
            · try dsimp only
              rw [show rfs (lvs ++ [(lv, iterW bl k)]) = rfs lvs ++ [Pt.ref lv] from List.map_append .., show lvL (lvs ++ [(lv, iterW bl k)]) = lvL lvs ++ [(lv, lst ((iterW bl k).map Pt.str))] from List.map_append .., List.append_assoc, List.singleton_append, List.length_map, show nextW bl (iterW bl k) = iterW bl (k + 1) from rfl]
              refine imw 0 0 rfl rfl (Wk.w (.keep (.keep (.keep (.keep (.keep (.forget .refl))))))) (imxk 7 487563735168 8 rfl (by kernel_rfl) ?_)
              exact .perm List.perm_middle.symm .refl
        · have hkN : k = N := by
            rcases Nat.lt_or_ge k N with h1 | h1
            · have := hE2 k h1
              have h3 : 0 < (iterW bl k).length := List.length_pos_iff.mpr this
              have q2 := of_decide_eq_false q
              omega
            · exact Nat.le_antisymm hk h1
          subst hkN
          rw [hE]
          refine k_nil ?_
          refine nx_next ?_
          refine k_Return ?_
          refine k_name 0 3 en rfl rfl (by kernel_rfl) ?_
          exact hR _ _ _ (.drop (.keep .head (.drop (.perm (List.perm_append_comm_assoc [_, _, _, _] _ _) (Im.pre (.keep .head (.keep .head (.keep .head (.wk .head dctE_dct .refl)))) _))))) (h a lvs hlv)
      · try dsimp only
        rw [List.length_map]
        exact imw 1 0 rfl rfl (Wk.w (.keep (.keep (.keep (.keep (.keep (.new (.new (.new .refl))))))))) (imx 7 487563735041 8 rfl (by kernel_rfl))
  · exact imw 0 1 rfl rfl (Wk.w (.new (.new .refl))) (imx 9 2283003892731906 9 rfl (by kernel_rfl))
  · exact self_ki 2 rfl
end
structure Sk where
  y : Word
  mw : Addr
  it : Addr
  sa : Addr
  pos : Nat
  ch : List Word
noncomputable def skL (st : List Sk) : List Ent := st.flatMap fun x => [(x.mw, mwP x.it), (x.it, li x.sa x.pos)]
noncomputable def skS (st : List Sk) : List Word := (st.map (·.y)).reverse
noncomputable def skI (st : List Sk) : List Pt := (st.map fun x => Pt.ref x.mw).reverse
noncomputable def skD : List Sk → List (Word × Pt)
  | [] => []
  | x :: st => skD st ++ [(x.y, .int st.length)]
theorem skS_cons (x : Sk) (st : List Sk) : skS (x :: st) = skS st ++ [x.y] := by unfold skS; rw [List.map_cons, List.reverse_cons]
theorem skI_cons (x : Sk) (st : List Sk) : skI (x :: st) = skI st ++ [Pt.ref x.mw] := by unfold skI; rw [List.map_cons, List.reverse_cons]
theorem skS_len (st : List Sk) : (skS st).length = st.length := by unfold skS; rw [List.length_reverse, List.length_map]
theorem skI_len (st : List Sk) : (skI st).length = st.length := by unfold skI; rw [List.length_reverse, List.length_map]
theorem skD_len : ∀ st : List Sk, (skD st).length = st.length
  | [] => rfl
  | x :: st => by show (skD st ++ [_]).length = _; rw [List.length_append, skD_len st]; rfl
theorem skD_names : ∀ st : List Sk, ∀ k ∈ skD st, ∃ x ∈ st, x.y = k.1
  | [], k, h => nomatch h
  | x :: st, k, h => by
    rcases List.mem_append.mp h with h | h
    · obtain ⟨z, hz, e⟩ := skD_names st k h
      exact ⟨z, .tail _ hz, e⟩
    · rw [List.mem_singleton.mp h]
      exact ⟨x, .head _, rfl⟩
theorem skD_none {st : List Sk} {y : Word} (h : ∀ x ∈ st, x.y ≠ y) : atK (skD st) y = none := by
  unfold atK
  rw [List.find?_eq_none.mpr fun k hk => ?_]
  · rfl
  · obtain ⟨x, hx, e⟩ := skD_names st k hk
    rw [← e]
    simpa using h x hx
theorem skD_put {st : List Sk} {x : Sk} (h : ∀ z ∈ st, z.y ≠ x.y) : putK (skD st) x.y (.int st.length) = skD (x :: st) := by
  unfold putK
  rw [if_neg]
  · rfl
  · intro e
    obtain ⟨k, hk, e⟩ := List.any_eq_true.mp e
    obtain ⟨z, hz, e2⟩ := skD_names st k hk
    exact h z hz (e2.trans (by simpa using e))
theorem skD_at {st : List Sk} {x : Sk} (h : ∀ z ∈ st, z.y ≠ x.y) : (atK (skD (x :: st)) x.y).isSome = true := by
  unfold atK
  show (((skD st ++ [_]).find? _).map _).isSome = true
  rw [List.find?_append, List.find?_eq_none.mpr fun k hk => ?_]
  · simp
  · obtain ⟨z, hz, e⟩ := skD_names st k hk
    rw [← e]
    simpa using h z hz
theorem skD_del {st : List Sk} {x : Sk} (h : ∀ z ∈ st, z.y ≠ x.y) : delK (skD (x :: st)) x.y = skD st := by
  unfold delK
  show (skD st ++ [_]).filter _ = _
  rw [List.filter_append, List.filter_eq_self.mpr fun k hk => ?_]
  · simp
  · obtain ⟨z, hz, e⟩ := skD_names st k hk
    rw [← e]
    simpa using h z hz
noncomputable def rem (ds : List Nd) (seen : List Word) : Nat := (ds.map fun d => if seen.any (· == d.name) then 0 else d.succ.length + 2).sum
noncomputable def todo (st : List Sk) : Nat := (st.map fun x => x.ch.length - x.pos + 1).sum
theorem sum_less {α : Type} (f g : α → Nat) (c : Nat) : ∀ (l : List α), (∀ x ∈ l, f x ≤ g x) → (∃ x ∈ l, f x + c ≤ g x) → (l.map f).sum + c ≤ (l.map g).sum
  | [], _, h => let ⟨_, h, _⟩ := h; nomatch h
  | a :: l, h1, h2 => by
    have hle : ∀ l : List α, (∀ x ∈ l, f x ≤ g x) → (l.map f).sum ≤ (l.map g).sum := fun l => by
      induction l with
      | nil => intro _; exact Nat.le_refl _
      | cons a l ih =>
        intro h
        have := h a (.head _)
        have := ih fun x hx => h x (.tail _ hx)
        simp only [List.map_cons, List.sum_cons]; omega
    simp only [List.map_cons, List.sum_cons]
    obtain ⟨x, hx, e⟩ := h2
    rcases List.mem_cons.mp hx with rfl | hx
    · have := hle l fun y hy => h1 y (.tail _ hy)
      omega
    · have := sum_less f g c l (fun y hy => h1 y (.tail _ hy)) ⟨x, hx, e⟩
      have := h1 a (.head _)
      omega
theorem rem_push {ds : List Nd} {seen : List Word} {d : Nd} (hd : d ∈ ds) (hs : seen.any (· == d.name) = false) : rem ds (seen ++ [d.name]) + (d.succ.length + 2) ≤ rem ds seen := by
  unfold rem
  refine sum_less _ _ _ ds (fun x _ => ?_) ⟨d, hd, ?_⟩
  · rw [List.any_append]
    cases seen.any (· == x.name)
    · simp only [Bool.false_or, Bool.false_eq_true, if_false]
      split <;> omega
    · simp
  · rw [List.any_append, hs]
    simp
structure SkOk (ds : List Nd) (rk : Word → Nat) (st : List Sk) (seen : List Word) : Prop where
  pw : st.Pairwise fun a b => rk b.y < rk a.y
  node : ∀ x ∈ st, ∃ d ∈ ds, d.name = x.y ∧ d.sa = x.sa ∧ d.succ = x.ch
  pos : ∀ x ∈ st, x.pos ≤ x.ch.length
  len : st.length ≤ seen.length
theorem SkOk.off {ds : List Nd} {rk : Word → Nat} {x : Sk} {st : List Sk} {seen : List Word} (h : SkOk ds rk (x :: st) seen) : ∀ z ∈ st, z.y ≠ x.y := fun z hz e => by
  have := (List.pairwise_cons.mp h.pw).1 z hz
  rw [e] at this
  exact Nat.lt_irrefl _ this
theorem SkOk.tail {ds : List Nd} {rk : Word → Nat} {x : Sk} {st : List Sk} {seen : List Word} (h : SkOk ds rk (x :: st) seen) : SkOk ds rk st seen :=
  ⟨(List.pairwise_cons.mp h.pw).2, fun z hz => h.node z (.tail _ hz), fun z hz => h.pos z (.tail _ hz), Nat.le_trans (Nat.le_succ _) h.len⟩
theorem SkOk.step {ds : List Nd} {rk : Word → Nat} {x : Sk} {st : List Sk} {seen : List Word} (h : SkOk ds rk (x :: st) seen) (hp : x.pos < x.ch.length) : SkOk ds rk ({ x with pos := x.pos + 1 } :: st) seen :=
  ⟨List.pairwise_cons.mpr ⟨(List.pairwise_cons.mp h.pw).1, (List.pairwise_cons.mp h.pw).2⟩, fun z hz => by
    rcases List.mem_cons.mp hz with rfl | hz
    · exact h.node x (.head _)
    · exact h.node z (.tail _ hz), fun z hz => by
    rcases List.mem_cons.mp hz with rfl | hz
    · exact hp
    · exact h.pos z (.tail _ hz), h.len⟩
theorem SkOk.push {ds : List Nd} {rk : Word → Nat} {d : Nd} {mw it : Addr} {st : List Sk} {seen : List Word} (h : SkOk ds rk st seen) (hd : d ∈ ds) (hr : ∀ z ∈ st, rk z.y < rk d.name) : SkOk ds rk (⟨d.name, mw, it, d.sa, 0, d.succ⟩ :: st) (seen ++ [d.name]) :=
  ⟨List.pairwise_cons.mpr ⟨hr, h.pw⟩, fun z hz => by
    rcases List.mem_cons.mp hz with rfl | hz
    · exact ⟨d, hd, rfl, rfl, rfl⟩
    · exact h.node z hz, fun z hz => by
    rcases List.mem_cons.mp hz with rfl | hz
    · exact Nat.zero_le _
    · exact h.pos z hz, by
    have := h.len
    rw [List.length_append, List.length_cons]
    simp only [List.length_cons, List.length_nil]
    omega⟩
theorem places_at {ds : List Nd} {k : Nat} {y : Word} {q : Pt} (h : (places ds)[k]? = some (y, q)) : y ∈ names ds := by
  unfold places at h
  rw [List.getElem?_map] at h
  cases e : ds[k]? with
  | none => rw [e] at h; cases h
  | some x => rw [e] at h; cases h; exact List.mem_map.mpr ⟨x, List.mem_of_getElem? e, rfl⟩
noncomputable def bodyOf : Stmt → List Stmt
  | .For _ _ b _ _ => b
  | .While _ b _ _ => b
  | .If _ b _ _ => b
  | _ => []
noncomputable def cycW : List Stmt := (bodyOf ((bodyOf ((fBody (cst 6 8)).getD 5 (.Pass ⟨0, 0, 0, 0⟩))).getD 1 (.Pass ⟨0, 0, 0, 0⟩))).drop 1
section
variable {G : Gr} {w : World} {l : List Ent} {n : Nat} {KV : Pt → List Ent → Prop}
noncomputable abbrev cyN (S n2 sa ia sea da : Addr) (nd : Option Pt) : Loc := [bd "self" (.ref S), bd "n2i" (.ref n2), bd "stack" (.ref sa), bd "itstack" (.ref ia), bd "seen" (.ref sea), bd "node2stacki" (.ref da), ("node", nd)]
noncomputable abbrev cyL (w : World) (L S n2 D sa ia sea da : Addr) (f1 f2 : Frm) (rd : Pt) (po nf : Int) (ds : List Nd) (ep : Nat) (nd : Option Pt) (st : List Sk) (seen : List Word) (l : List Ent) : List Ent :=
  (L, nsP (cyN S n2 sa ia sea da nd)) :: (f1.2.1, nsP f1.2.2) :: (f2.2.1, nsP f2.2.2) :: (sa, lst ((skS st).map Pt.str)) :: (ia, lst (skI st)) :: (sea, setP w seen) :: (da, dct w (skD st)) :: (S, inst 137 D []) :: (D, dicP (sorD n2 rd po nf)) :: (n2, dctE w (places ds) ep) :: (skL st ++ (ds.flatMap nodeL ++ l))
theorem s_cycle {S D n2 : Addr} {rd : Pt} {po nf : Int} {ds : List Nd} {f1 f2 : Frm} {rk : Word → Nat} (B : Bx G w 1) (hA : B.A.frames = some [f1.1, f2.1]) (hok : FrOk [f1, f2]) (hnd : (names ds).Nodup) (hrem : rem ds [] ≤ 1000)
    (hrk : ∀ d ∈ ds, ∀ y ∈ d.succ, y ∈ names ds ∧ rk d.name < rk y)
    (h : KV .none ((f1.2.1, nsP f1.2.2) :: (f2.2.1, nsP f2.2.2) :: (S, inst 137 D []) :: (D, dicP (sorD n2 rd po nf)) :: (n2, dct w (places ds)) :: (ds.flatMap nodeL ++ l))) :
    WC B ((f1.2.1, nsP f1.2.2) :: (f2.2.1, nsP f2.2.2) :: (S, inst 137 D []) :: (D, dicP (sorD n2 rd po nf)) :: (n2, dct w (places ds)) :: (ds.flatMap nodeL ++ l)) (.ref 127) [.ref S] KV := by
  refine k_enterF (fd := f127) (body := fBody (cst 6 8)) (by kernel_rfl) (by kernel_rfl) (by kernel_rfl) (by kernel_rfl) (by kernel_rfl) (by kernel_rfl) (by kernel_rfl) (bind1 (x := "self") fun v => by kernel_rfl) fun L env B KF hfr hf en hR hN => ?_
  rw [hA] at hfr
  have hk0 : env.scope.kind = .function := by rw [en.s]; exact eq_of_beq (by kernel_rfl)
  have hk : env.scope.kind ≠ .module := by rw [hk0]; decide
  refine k_Assign ?_
  refine k_Attr ?_
  refine k_name 0 0 en rfl rfl (by kernel_rfl) ?_
  refine k_getD 3 0 4 rfl rfl rfl (by kernel_rfl) ?_
  refine k_store 0 1 en rfl (by kernel_rfl) ?_
  refine k_Assign ?_
  refine k_List ?_
  refine k_items_nil ?_
  refine ⟨Nat.le_of_ble_eq_true rfl, fun a => ?_⟩
  refine k_store 1 2 en rfl (by kernel_rfl) ?_
  refine k_Assign ?_
  refine k_List ?_
  refine k_items_nil ?_
  refine ⟨Nat.le_of_ble_eq_true rfl, fun a => ?_⟩
  refine k_store 2 3 en rfl (by kernel_rfl) ?_
  refine k_Assign ?_
  refine k_tcall0 (T := "set") en (by kernel_rfl) (by kernel_rfl) (by kernel_rfl) ?_
  refine c_set0 fun a => ?_
  refine k_store 3 4 en rfl (by kernel_rfl) ?_
  refine k_Assign ?_
  refine k_Dict0 fun a => ?_
  refine k_store 4 5 en rfl (by kernel_rfl) ?_
  rename_i sa ia sea
  refine k_forQ ?_
  refine k_name 4 1 en rfl rfl (by kernel_rfl) ?_
  refine k_iterD 9 rfl fun it ep => ?_
  refine ⟨List Word, (places ds).length, fun k => ki n2 (places ds).length ep k, fun k p => ∃ y q, (places ds)[k]? = some (y, q) ∧ p = .str y, fun _ seen => seen.length + rem ds seen ≤ 1000,
    fun k seen => cyL w L S n2 D sa ia sea a f1 f2 rd po nf ds ep none [] seen l,
    ⟨it, [], rfl, by (try dsimp only); rw [List.length_nil, Nat.zero_add]; exact hrem, ?_⟩, fun it => src_key fun k l' h => by obtain ⟨_, _, rfl⟩ := h; exact .tail (.tail (.tail (.tail (.tail (.tail (.tail (.tail (.tail .head)))))))), ?_, ?_⟩
  · try dsimp only
    show Im _ ((it, ki n2 (places ds).length ep 0) :: (L, nsP [bd "self" (.ref S), bd "n2i" (.ref n2), bd "stack" (.ref sa), bd "itstack" (.ref ia), bd "seen" (.ref sea), bd "node2stacki" (.ref a), ("node", none)]) :: (f1.2.1, nsP f1.2.2) :: (f2.2.1, nsP f2.2.2) :: (sa, lst []) :: (ia, lst []) :: (sea, setP w []) :: (a, dct w []) :: (S, inst 137 D []) :: (D, dicP (sorD n2 rd po nf)) :: (n2, dctE w (places ds) ep) :: (ds.flatMap nodeL ++ l))
    exact imw 5 1 rfl rfl (Wk.w (.keep (.keep (.keep (.keep (.keep (.keep (.new .refl)))))))) (imx 11 11693600971243151680 11 rfl (by kernel_rfl))
  · intro it0 k seen p KF1 hk1 hsn hp hN1 _ _
    obtain ⟨y, q, hy, rfl⟩ := hp
    have hym := places_at hy
    try dsimp only at hsn ⊢
    have hsl : seen.length ≤ 1000 := by omega
    refine k_asgN ?_
    refine k_store 1 6 en rfl (by kernel_rfl) ?_
    refine k_If ?_
    refine k_tCompare ?_
    refine k_name 1 6 en rfl rfl (by kernel_rfl) ?_
    refine k_name 1 4 en rfl rfl (by kernel_rfl) ?_
    refine k_setin 6 rfl (by first | decide | omega | (simp; omega) | exact Nat.le_of_ble_eq_true rfl | (simp; done)) ?_
    refine k_tb ?_
    refine ⟨fun q1 => ?_, fun q1 => ?_⟩
    · refine k_Continue ?_
      refine nx_cont ?_
      refine (hN1 _ seen hsn ?_).2
      try dsimp only
      exact imw 1 1 rfl rfl (Wk.w (.keep (.keep (.keep (.keep (.keep (.keep (.forget .refl)))))))) (imx 11 11693627636546543680 11 rfl (by kernel_rfl))
    · refine k_nil ?_
      refine nx_next ?_
      have hok3 : ∀ loc, FrOk [(env, L, loc), f1, f2] := fun loc x hx => by
        rcases List.mem_cons.mp hx with rfl | hx
        · exact ⟨hf, hk⟩
        · exact hok x hx
      refine k_While (α := { x : Word × List Sk × List Word // x.1 ∈ names ds ∧ (∀ z ∈ x.2.1, rk z.y < rk x.1) ∧ SkOk ds rk x.2.1 x.2.2 ∧ x.2.2.length + rem ds x.2.2 ≤ 1000 })
        (fun x => rem ds x.1.2.2 + todo x.1.2.1)
        (fun x => (it0, ki n2 (places ds).length ep (k + 1)) :: cyL w L S n2 D sa ia sea a f1 f2 rd po nf ds ep (some (.str x.1.1)) x.1.2.1 x.1.2.2 l)
        (fun ⟨⟨nd, st, seen⟩, hx1, hx2, hx3, hx4⟩ KF2 hN2 hB2 _ => ?_) ⟨⟨y, [], seen⟩, hym, fun z h => (nomatch h), ⟨.nil, fun z h => (nomatch h), fun z h => (nomatch h), Nat.zero_le _⟩, hsn⟩ ?_
      · try dsimp only at hx1 hx2 hx3 hx4 ⊢
        have hsl2 : seen.length ≤ 1000 := by omega
        have hst : st.length ≤ 1000 := Nat.le_trans hx3.len hsl2
        have hs1 : (skS st).length ≤ 1000 := by rw [skS_len]; exact hst
        have hs2 : (skI st).length ≤ 1000 := by rw [skI_len]; exact hst
        have hs3 : (skD st).length ≤ 1000 := by rw [skD_len]; exact hst
        have hoff : ∀ z ∈ st, z.y ≠ nd := fun z hz e => by
          have := hx2 z hz
          rw [e] at this
          exact Nat.lt_irrefl _ this
        have hW2 : ∀ (nd' : Option Pt) (st' : List Sk) (seen' : List Word), SkOk ds rk st' seen' → seen'.length + rem ds seen' ≤ 1000 → rem ds seen' + todo st' ≤ rem ds seen + todo st →
            WF B ((it0, ki n2 (places ds).length ep (k + 1)) :: cyL w L S n2 D sa ia sea a f1 f2 rd po nf ds ep nd' st' seen' l) (execs cycW env) KF2 := fun nd' st' seen' h1 h2 h3 => by
          refine k_While (α := { s2 : List Sk // SkOk ds rk s2 seen' ∧ rem ds seen' + todo s2 ≤ rem ds seen + todo st }) (fun x => x.1.length)
            (fun x => (it0, ki n2 (places ds).length ep (k + 1)) :: cyL w L S n2 D sa ia sea a f1 f2 rd po nf ds ep none x.1 seen' l) (fun ⟨st2, hy1, hy2⟩ KF3 hN3 hB3 _ => ?_) ⟨st', h1, h3⟩ ?_
          · try dsimp only
            have hl2 : st2.length ≤ 1000 := Nat.le_trans hy1.len (by omega)
            have hl3 : (skS st2).length ≤ 1000 := by rw [skS_len]; exact hl2
            refine k_tVal ?_
            refine k_name 1 2 en rfl rfl (by kernel_rfl) ?_
            refine k_tlist 4 rfl (by first | decide | omega | (simp; omega) | exact Nat.le_of_ble_eq_true rfl | (simp; done)) ?_
            refine ⟨fun q3 => ?_, fun q3 => ?_⟩
            · cases st2 with
              | nil => exact absurd q3 (by decide)
              | cons x st3 =>
                rw [List.length_cons] at hl2
                have hl4 : (skI st3).length ≤ 1000 := by rw [skI_len]; omega
                have hl5 : (skS st3).length ≤ 999 := by rw [skS_len]; omega
                obtain ⟨d, hd, hd1, hd2, hd3⟩ := hy1.node x (.head _)
                unfold cyL
                rw [skI_cons, skS_cons, List.map_append]
                have ⟨r', hr'⟩ : ∃ r', r' = (it0, ki n2 (places ds).length ep (k + 1)) :: (sa, lst ((skS st3).map Pt.str ++ [Pt.str x.y])) :: (ia, lst (skI st3 ++ [Pt.ref x.mw])) :: (sea, setP w seen') :: (a, dct w (skD (x :: st3))) :: (S, inst 137 D []) :: (D, dicP (sorD n2 rd po nf)) :: (n2, dctE w (places ds) ep) :: (x.mw, mwP x.it) :: (skL st3 ++ (ds.flatMap nodeL ++ l)) := ⟨_, rfl⟩
                refine WF.im (l' := (L, nsP (cyN S n2 sa ia sea a none)) :: (f1.2.1, nsP f1.2.2) :: (f2.2.1, nsP f2.2.2) :: (it0, ki n2 (places ds).length ep (k + 1)) :: (sa, lst ((skS st3).map Pt.str ++ [Pt.str x.y])) :: (ia, lst (skI st3 ++ [Pt.ref x.mw])) :: (sea, setP w seen') :: (a, dct w (skD (x :: st3))) :: (S, inst 137 D []) :: (D, dicP (sorD n2 rd po nf)) :: (n2, dctE w (places ds) ep) :: (x.mw, mwP x.it) :: (x.it, li x.sa x.pos) :: (skL st3 ++ (ds.flatMap nodeL ++ l))) ?_ ?_
                · exact imx 13 57491748161315508596865 13 rfl (by kernel_rfl)
                refine k_tryNext (xf := (env, L, cyN S n2 sa ia sea a none)) (fr := [f1, f2]) hfr (hok3 _) rfl en (by kernel_rfl) ?_
                refine k_Subscript ?_
                refine k_name 0 3 en rfl rfl (by kernel_rfl) ?_
                refine k_UnaryOp ?_
                refine k_int ?_
                refine k_neg ?_
                refine k_getLast 5 rfl (by first | decide | omega | (simp; omega) | exact Nat.le_of_ble_eq_true rfl | (simp; done)) ?_
                refine ⟨x.mw, x.it, x.sa, x.pos, x.ch.map Pt.str, (L, nsP (cyN S n2 sa ia sea a none)) :: (f1.2.1, nsP f1.2.2) :: (f2.2.1, nsP f2.2.2) :: r', rfl, .tail (.tail (.tail (.tail (.tail (.tail (.tail (.tail (.tail (.tail (.tail .head)))))))))), ?_, ?_, ?_, ?_⟩
                · subst hr'
                  exact List.perm_middle (l₁ := [_, _, _, _, _, _, _, _, _, _, _, _])
                · subst hr'
                  exact hd2 ▸ hd3 ▸ ((has_succ hd l).right (skL st3)).right [_, _, _, _, _, _, _, _, _, _, _, _]
                · intro p hp
                  obtain ⟨o, ho, rfl⟩ := str_at hp
                  have hpo : x.pos < x.ch.length := (List.getElem?_eq_some_iff.mp ho).1
                  have hom := hrk d hd o (hd3 ▸ List.mem_of_getElem? ho)
                  refine k_store 1 6 en rfl (by kernel_rfl) ?_
                  refine hB3 _ ?_
                  refine k_nil ?_
                  refine (hN2 _ ⟨(o, { x with pos := x.pos + 1 } :: st3, seen'), hom.1, fun z hz => ?_, hy1.step hpo, h2⟩ ?_ ?_).1
                  · have hxo : rk x.y < rk o := hd1 ▸ hom.2
                    rcases List.mem_cons.mp hz with rfl | hz
                    · exact hxo
                    · exact Nat.lt_trans ((List.pairwise_cons.mp hy1.pw).1 z hz) hxo
                  · have e3 : rem ds seen' + ((x.ch.length - x.pos + 1) + todo st3) ≤ rem ds seen + todo st := hy2
                    show rem ds seen' + ((x.ch.length - (x.pos + 1) + 1) + todo st3) < rem ds seen + todo st
                    omega
                  · subst hr'
                    try dsimp only
                    unfold cyL
                    rw [show skI ({ x with pos := x.pos + 1 } :: st3) = skI st3 ++ [Pt.ref x.mw] from skI_cons _ _, show skS ({ x with pos := x.pos + 1 } :: st3) = skS st3 ++ [x.y] from skS_cons _ _, List.map_append]
                    exact imx 13 898308565020554567748 13 rfl (by kernel_rfl)
                · intro hnone
                  refine ⟨r', .refl _, fun e s' F' => ?_⟩
                  subst hr'
                  refine wpAny_execs_cons (wpAny_Delete (wpAny_deleteEach_cons (delete_Subscript (r_name 0 5 en F' rfl rfl (by kernel_rfl) fun v hv => ?_))))
                  cases hv
                  refine r_pop (p := .str x.y) (vs := (skS st3).map Pt.str) 0 2 4 en F' rfl rfl (by kernel_rfl) rfl (by rw [List.length_map]; omega) fun v s1 hv F1 => ?_
                  obtain ⟨t, rfl⟩ := hv
                  refine r_del 7 F1 rfl (skD_at hy1.off) (by rw [skD_len, List.length_cons]; omega) fun s2 F2 => ?_
                  refine wpAny_deleteEach_nil ?_
                  refine wpAny_execs_cons (wpAny_Expr_any (r_pop (p := .ref x.mw) (vs := skI st3) 0 3 5 en F2 rfl rfl (by kernel_rfl) rfl (by omega) fun v s3 hv F3 => ?_) (by show (env.scope.kind == .module && _) = false; rw [hk0]; rfl) rfl)
                  refine wpAny_execs_nil ?_
                  refine ⟨rfl, _, F3, ?_⟩
                  refine k_nil ?_
                  refine (hN3 _ ⟨st3, hy1.tail, ?_⟩ ?_ ?_).1
                  · have e3 : rem ds seen' + ((x.ch.length - x.pos + 1) + todo st3) ≤ rem ds seen + todo st := hy2
                    omega
                  · exact Nat.lt_succ_self _
                  · try dsimp only
                    rw [skD_del hy1.off]
                    exact imx 11 11693627636546277379 12 rfl (by kernel_rfl)
            · cases st2 with
              | cons x st3 => rw [skS_cons] at q3; simp at q3
              | nil =>
                refine k_Break ?_
                refine nx_brk ?_
                refine hB2 _ ?_
                refine k_nil ?_
                refine (hN1 _ seen' h2 ?_).1
                try dsimp only
                exact imx 11 11693627636546543680 11 rfl (by kernel_rfl)
          · try dsimp only
            exact imw 1 1 rfl rfl (Wk.w (.keep (.keep (.keep (.keep (.keep (.keep (.forget .refl)))))))) (imx 11 11693627636546543680 11 rfl (by kernel_rfl))
        refine k_tVal ?_
        refine k_bool ?_
        refine k_tb ?_
        refine ⟨fun _ => ?_, fun e => Bool.noConfusion (show true = false from e)⟩
        refine k_If ?_
        refine k_tCompare ?_
        refine k_name 1 6 en rfl rfl (by kernel_rfl) ?_
        refine k_name 1 4 en rfl rfl (by kernel_rfl) ?_
        refine k_setin 6 rfl (by first | decide | omega | (simp; omega) | exact Nat.le_of_ble_eq_true rfl | (simp; done)) ?_
        refine k_tb ?_
        refine ⟨fun q2 => ?_, fun q2 => ?_⟩
        · refine k_If ?_
          refine k_tCompare ?_
          refine k_name 1 6 en rfl rfl (by kernel_rfl) ?_
          refine k_name 1 5 en rfl rfl (by kernel_rfl) ?_
          refine k_din (.of 7 rfl) (Has.of (i := 7) rfl) ?_
          refine k_tb ?_
          refine and_f (by rw [skD_none hoff]; rfl) ?_
          refine k_nil ?_
          refine nx_next ?_
          refine k_nil ?_
          refine nx_next ?_
          exact hW2 _ st seen hx3 hx4 (Nat.le_refl _)
        · have ⟨d, rest, hfo⟩ := foc hnd hx1
          have hnm := hfo.name
          subst hnm
          have hat := hfo.at_
          have hp1 : (skL st ++ (ds.flatMap nodeL ++ l)).Perm (nodeL d ++ (skL st ++ (rest.flatMap nodeL ++ l))) := ((hfo.to l).append_left _).trans (List.perm_append_comm_assoc ..)
          refine WF.im (.tl (.tl (.tl (.tl (.tl (.tl (.tl (.tl (.tl (.tl (.tl (.perm hp1 .refl)))))))))))) ?_
          refine k_Expr en (by kernel_rfl) ?_
          refine k_setadd ?_
          refine k_name 1 4 en rfl rfl (by kernel_rfl) ?_
          refine qsm 6 rfl (by first | decide | omega | (simp; omega) | exact Nat.le_of_ble_eq_true rfl | (simp; done)) ?_
          refine k_meth1 ?_
          refine k_name 1 6 en rfl rfl (by kernel_rfl) ?_
          refine c_setadd 6 rfl (by first | decide | omega | (simp; omega) | exact Nat.le_of_ble_eq_true rfl | (simp; done)) ?_
          refine ⟨rfl, ?_⟩
          refine k_Expr en (by kernel_rfl) ?_
          refine k_append ?_
          refine k_name 1 3 en rfl rfl (by kernel_rfl) ?_
          refine qm 5 rfl ?_
          refine k_meth1 ?_
          refine k_Attr ?_
          refine k_bcall (id := "iter") en (by kernel_rfl) (by kernel_rfl) (by kernel_rfl) ?_
          refine k_items_cons ?_
          refine k_Attr ?_
          refine k_Subscript ?_
          refine k_name 1 1 en rfl rfl (by kernel_rfl) ?_
          refine k_name 1 6 en rfl rfl (by kernel_rfl) ?_
          refine k_dgetD (.ofE 10 rfl) (by assumption) ?_
          refine k_getS 43 11 2 12 rfl rfl rfl (by kernel_rfl) ?_
          refine k_items_nil ?_
          refine c_iterL (Has.of (i := 13) rfl) fun it => ?_
          refine k_getNext (Has.of (i := 0) rfl) fun mw => ?_
          refine c_append 7 rfl (by first | decide | omega | (simp; omega) | exact Nat.le_of_ble_eq_true rfl | (simp; done)) ?_
          refine ⟨rfl, ?_⟩
          refine k_AssignSub ?_
          refine k_bcall (id := "len") en (by kernel_rfl) (by kernel_rfl) (by kernel_rfl) ?_
          refine k_items_cons ?_
          refine k_name 3 2 en rfl rfl (by kernel_rfl) ?_
          refine k_items_nil ?_
          refine c_len (.ofL 6 rfl) (by first | decide | omega | (simp; omega) | exact Nat.le_of_ble_eq_true rfl | (simp; done)) ?_
          refine k_name 3 5 en rfl rfl (by kernel_rfl) ?_
          refine k_name 3 6 en rfl rfl (by kernel_rfl) ?_
          refine k_dset 9 rfl (by first | decide | omega | (simp; omega) | exact Nat.le_of_ble_eq_true rfl | (simp; done)) ?_
          refine k_Expr en (by kernel_rfl) ?_
          refine k_append ?_
          refine k_name 3 2 en rfl rfl (by kernel_rfl) ?_
          refine qm 6 rfl ?_
          refine k_meth1 ?_
          refine k_name 3 6 en rfl rfl (by kernel_rfl) ?_
          refine c_append 6 rfl (by first | decide | omega | (simp; omega) | exact Nat.le_of_ble_eq_true rfl | (simp; done)) ?_
          refine ⟨rfl, ?_⟩
          refine k_nil ?_
          refine nx_next ?_
          have e1 : putK (skD st) d.name (.int ((skS st).map Pt.str).length) = skD (⟨d.name, mw, it, d.sa, 0, d.succ⟩ :: st) := by
            rw [List.length_map, skS_len]
            exact skD_put (x := ⟨d.name, mw, it, d.sa, 0, d.succ⟩) hoff
          have e2 := rem_push hfo.mem q2
          refine WF.im ?_ (hW2 (some (.str d.name)) (⟨d.name, mw, it, d.sa, 0, d.succ⟩ :: st) (seen ++ [d.name]) (hx3.push hfo.mem hx2) ?_ ?_)
          · unfold cyL
            rw [e1, skS_cons, skI_cons, List.map_append]
            refine imw 1 12 rfl rfl liN_li (imxk 13 4736402554198091382978 13 rfl (by kernel_rfl) ?_)
            exact .perm hp1.symm .refl
          · rw [List.length_append, List.length_cons, List.length_nil]
            omega
          · show _ + ((d.succ.length - 0 + 1) + todo st) ≤ _
            omega
      · try dsimp only
        exact imx 11 11693627636546543680 11 rfl (by kernel_rfl)
  · intro seen hsn
    try dsimp only
    refine k_nil ?_
    refine nx_next ?_
    refine k_Return ?_
    refine k_none ?_
    refine hR _ _ _ ?_ h
    exact imw 9 4 rfl rfl dctE_dct (imx 5 153120897 10 rfl (by kernel_rfl))
end
noncomputable def readyW (ds : List Nd) : List Word := (ds.filter fun d => d.np == 0).map (·.name)
theorem readyW_succ {ds : List Nd} {k : Nat} {d : Nd} (h : ds[k]? = some d) : readyW (ds.take (k + 1)) = readyW (ds.take k) ++ if d.np == 0 then [d.name] else [] := by
  unfold readyW
  rw [List.take_succ, h, List.filter_append, List.map_append]
  congr 1
  simp only [Option.toList_some, List.filter_cons, List.filter_nil]
  split <;> rfl
theorem readyW_len (ds : List Nd) : (readyW ds).length ≤ ds.length := by
  unfold readyW
  rw [List.length_map]
  exact List.length_filter_le ..
theorem places_nth {ds : List Nd} {k : Nat} {y : Word} {p : Pt} (h : (places ds)[k]? = some (y, p)) : ∃ d, ds[k]? = some d ∧ p = .ref d.a := by
  unfold places at h
  rw [List.getElem?_map] at h
  cases e : ds[k]? with
  | none => rw [e] at h; cases h
  | some x => rw [e] at h; cases h; exact ⟨x, rfl, rfl⟩
theorem focAt {ds : List Nd} {k : Nat} {d : Nd} (h : ds[k]? = some d) : ∃ rest : List Nd, ∀ l, (ds.flatMap nodeL ++ l).Perm (nodeL d ++ (rest.flatMap nodeL ++ l)) := by
  obtain ⟨d1, d2, e⟩ := List.append_of_mem (List.mem_of_getElem? h)
  subst e
  exact ⟨d1 ++ d2, fun l => focus _ _ _ _⟩
section
variable {G : Gr} {w : World} {l : List Ent} {n : Nat} {KV : Pt → List Ent → Prop}
theorem s_prepare {S D n2 : Addr} {po nf : Int} {ds : List Nd} {f1 : Frm} {rk : Word → Nat} (B : Bx G w 3) (hA : B.A.frames = some [f1.1]) (hok : FrOk [f1]) (hnd : (names ds).Nodup) (hrem : rem ds [] ≤ 1000) (hz : ds.length ≤ 1000)
    (hrk : ∀ d ∈ ds, ∀ y ∈ d.succ, y ∈ names ds ∧ rk d.name < rk y)
    (h : ∀ ra, KV .none ((f1.2.1, nsP f1.2.2) :: (S, inst 137 D []) :: (D, dicP (sorD n2 (.ref ra) po nf)) :: (ra, lst ((readyW ds).map Pt.str)) :: (n2, dct w (places ds)) :: (ds.flatMap nodeL ++ l))) :
    WC B ((f1.2.1, nsP f1.2.2) :: (S, inst 137 D []) :: (D, dicP (sorD n2 .none po nf)) :: (n2, dct w (places ds)) :: (ds.flatMap nodeL ++ l)) (.ref 92) [.ref S] KV := by
  refine k_enterF (fd := f92) (body := fBody (cst 6 3)) (by kernel_rfl) (by kernel_rfl) (by kernel_rfl) (by kernel_rfl) (by kernel_rfl) (by kernel_rfl) (by kernel_rfl) (bind1 (x := "self") fun v => by kernel_rfl) fun L env B KF hfr hf en hR hN => ?_
  rw [hA] at hfr
  have hk0 : env.scope.kind = .function := by rw [en.s]; exact eq_of_beq (by kernel_rfl)
  have hk : env.scope.kind ≠ .module := by rw [hk0]; decide
  refine k_If ?_
  refine k_tCompare ?_
  refine k_Attr ?_
  refine k_name 0 0 en rfl rfl (by kernel_rfl) ?_
  refine k_getD 2 1 3 rfl rfl rfl (by kernel_rfl) ?_
  refine k_none ?_
  refine k_isnot (by rfl) ?_
  refine k_tb ?_
  refine ⟨fun e => Bool.noConfusion (show false = true from e), fun _ => ?_⟩
  refine k_nil ?_
  refine nx_next ?_
  refine k_AssignAttr ?_
  refine k_ListComp [] en rfl (by kernel_rfl) ?_
  refine k_dmeth PySem.F.slot_dict_values PySem.F.type_dict_values ?_
  refine k_Attr ?_
  refine k_name 0 0 en rfl rfl (by kernel_rfl) ?_
  refine k_getD 2 0 3 rfl rfl rfl (by kernel_rfl) ?_
  refine qdm 4 rfl ?_
  refine k_meth0 ?_
  refine c_dvalues 4 rfl fun v => ?_
  refine k_iterDV 5 0 rfl rfl fun it ep => ?_
  refine ⟨it, rfl, fun acc C env2 en2 => ?_⟩
  refine k_comp1 (α := Unit) (places ds).length (fun k => vli n2 (places ds).length ep k) (fun k p => ∃ y, (places ds)[k]? = some (y, p)) (fun _ _ => True)
    (fun k _ => (C, nsP [("i", none)]) :: (acc, lst ((readyW (ds.take k)).map Pt.str)) :: (L, nsP [bd "self" (.ref S)]) :: (f1.2.1, nsP f1.2.2) :: (S, inst 137 D []) :: (D, dicP (sorD n2 .none po nf)) :: (n2, dctE w (places ds) ep) :: (ds.flatMap nodeL ++ l))
    (fun it => src_val fun k l' h => by obtain ⟨_, _, rfl⟩ := h; exact .tail (.tail (.tail (.tail (.tail (.tail .head)))))) ?_ ?_ it () trivial ?_ (self_vi 2 rfl)
  · intro it0 k _ p K2 hk _ hp hK2
    obtain ⟨y, hy⟩ := hp
    obtain ⟨d, hd, rfl⟩ := places_nth hy
    obtain ⟨rest, hfo⟩ := focAt hd
    have hrl : (readyW (ds.take k)).length ≤ 1000 := Nat.le_trans (readyW_len _) (Nat.le_trans (List.length_take_le' ..) hz)
    refine WU1.im (.tl (.tl (.tl (.tl (.tl (.tl (.tl (.tl (.perm (hfo l) .refl))))))))) ?_
    refine k_asgTN ?_
    refine k_store 1 0 en2 rfl (by kernel_rfl) ?_
    refine wifs_one ?_
    refine k_tCompare ?_
    refine k_Attr ?_
    refine k_name 1 0 en2 rfl rfl (by kernel_rfl) ?_
    refine k_getS 42 8 1 9 rfl rfl rfl (by kernel_rfl) ?_
    refine k_int ?_
    refine k_eq ?_
    refine k_tb ?_
    refine ⟨fun q => ?_, fun q => ?_⟩
    · refine k_Attr ?_
      refine k_name 1 0 en2 rfl rfl (by kernel_rfl) ?_
      refine k_getS 41 8 0 9 rfl rfl rfl (by kernel_rfl) ?_
      refine c_append 2 rfl (by first | decide | omega | (simp; omega) | exact Nat.le_of_ble_eq_true rfl | (simp; done)) ?_
      refine hK2 _ () trivial ?_
      rw [readyW_succ hd, if_pos q, List.map_append]
      refine imw 1 1 rfl rfl (Wk.w (.forget .refl)) (imxk 8 31204079050816 8 rfl (by kernel_rfl) ?_)
      exact .perm (hfo l).symm .refl
    · refine hK2 _ () trivial ?_
      rw [readyW_succ hd, if_neg (by rw [q]; decide), List.append_nil]
      refine imw 1 1 rfl rfl (Wk.w (.forget .refl)) (imxk 8 31204079050816 8 rfl (by kernel_rfl) ?_)
      exact .perm (hfo l).symm .refl
  · intro _ _
    rw [show ds.take (places ds).length = ds from List.take_of_length_le (by simp [places])]
    refine k_endC (.keep .head .refl) ?_
    refine k_name 1 0 en rfl rfl (by kernel_rfl) ?_
    refine k_setD 3 1 4 (Nat.le_of_ble_eq_true rfl) rfl rfl (by kernel_rfl) ?_
    refine k_Assign ?_
    refine k_imeth0 (f := 127) (fd := f127) ?_
    refine k_name 1 0 en rfl rfl (by kernel_rfl) ?_
    refine qim 3 4 rfl rfl (by kernel_rfl) (by kernel_rfl) (by kernel_rfl) ?_
    refine WC.im (l' := (L, nsP [bd "self" (.ref S)]) :: (f1.2.1, nsP f1.2.2) :: (S, inst 137 D []) :: (D, dicP (sorD n2 (.ref acc) po nf)) :: (n2, dct w (places ds)) :: (ds.flatMap nodeL ++ ((acc, lst ((readyW ds).map Pt.str)) :: l))) ?_ (s_cycle (f1 := (env, L, [bd "self" (.ref S)])) (f2 := f1) (rk := rk) (B.le (by decide)) hfr (fun x hx => by
      rcases List.mem_cons.mp hx with rfl | hx
      · exact ⟨hf, hk⟩
      · exact hok x hx) hnd hrem hrk ?_)
    · refine imw 5 4 rfl rfl dctE_dct (imxk 5 84947073 6 rfl (by kernel_rfl) ?_)
      exact .perm List.perm_middle.symm .refl
    · refine k_store 0 1 en rfl (by kernel_rfl) ?_
      refine k_If ?_
      refine k_tVal ?_
      refine k_name 0 1 en rfl rfl (by kernel_rfl) ?_
      refine k_tn ?_
      refine ⟨fun e => Bool.noConfusion (show false = true from e), fun _ => ?_⟩
      refine k_nil ?_
      refine nx_next ?_
      refine k_nil ?_
      refine hN _ _ ?_ (h acc)
      exact .drop (.keep .head (.keep .head (.keep .head (.perm (List.perm_middle (l₁ := _ :: ds.flatMap nodeL)) .refl))))
  · exact imw 0 1 rfl rfl (Wk.w (.new .refl)) (imx 8 35671935815682 9 rfl (by kernel_rfl))
end
section
variable {G : Gr} {w : World} {l l' : List Ent} {n : Nat} {KV : Pt → List Ent → Prop} {B : Bx G w n} {env : Env} {pos : Pos} {k : Nat}
theorem x_add {S D n2 ra : Addr} {po nf : Int} {y : Word} {zs : List Word} {f1 f2 : Frm} (B : Bx G w 1) (hA : B.A.frames = some [f1.1, f2.1]) (hok : FrOk [f1, f2]) (hz : zs.length ≤ 1000) :
    WXK B ((f1.2.1, nsP f1.2.2) :: (f2.2.1, nsP f2.2.2) :: (S, inst 137 D []) :: (D, dicP (sorD n2 (.ref ra) po nf)) :: l) (.ref 87) (.ref S :: .str y :: zs.map Pt.str)
      (fun v s' => ∃ ea T, v = .ref ea ∧ St G s' ((T, tbP .none) :: (ea, exT "ValueError" T) :: (f1.2.1, nsP f1.2.2) :: (f2.2.1, nsP f2.2.2) :: (S, inst 137 D []) :: (D, dicP (sorD n2 (.ref ra) po nf)) :: l)) := by
  refine k_enterX (ps := [.ref S, .str y] ++ zs.map Pt.str) (fd := f87) (names := ["predecessors", "node", "self"]) (R := fun lc l' => ∃ ta, lc = [bd "predecessors" (.ref ta), bd "node" (.str y), bd "self" (.ref S)] ∧ l' = (ta, tup (zs.map Pt.str)) :: (f1.2.1, nsP f1.2.2) :: (f2.2.1, nsP f2.2.2) :: (S, inst 137 D []) :: (D, dicP (sorD n2 (.ref ra) po nf)) :: l)
    (body := fBody (cst 6 2)) (by kernel_rfl) (by kernel_rfl) (by kernel_rfl) (by kernel_rfl) (by kernel_rfl) (by kernel_rfl) (by kernel_rfl) (fun vs hvs s F A Q E hQ => ?_) fun loc l₁ L env B' hfr hf hR en s F => ?_
  · obtain ⟨us, ws, e, h1, h2⟩ := hvs.split
    subst e
    cases h1 with | cons hp h1 =>
    cases h1 with | cons hq h1 =>
    cases h1
    show wpAny _ _ (bindArgs f87 ⟨_ :: _ :: ws, []⟩) _ _ _
    rw [bind_add]
    refine wpAny_bind (wpAny_newTuple (wpAny_pure ?_) (by rw [h2.len]; exact sz (by rw [List.length_map]; omega)))
    exact hQ [(_, .ref s.heap.objs.size), (_, _), (_, _)] _ _ _ (F.push (P := tup (zs.map Pt.str)) (t := s.toks) ⟨ws, _, h2, rfl⟩ rfl) rfl (.cons okR (.cons hq (.cons hp .nil))) ⟨_, rfl, rfl⟩
  · obtain ⟨ta, rfl, rfl⟩ := hR
    rw [hA] at hfr
    have hk0 : env.scope.kind = .function := by rw [en.s]; exact eq_of_beq (by kernel_rfl)
    have hk : env.scope.kind ≠ .module := by rw [hk0]; decide
    have hok3 : FrOk [(env, L, [bd "predecessors" (.ref ta), bd "node" (.str y), bd "self" (.ref S)]), f1, f2] := fun x hx => by
      rcases List.mem_cons.mp hx with rfl | hx
      · exact ⟨hf, hk⟩
      · exact hok x hx
    refine wpAny_execs_cons (wpAny_If (wpAny_mono (WB.use (KB := fun b l' => b = true ∧ l' = (L, nsP [bd "predecessors" (.ref ta), bd "node" (.str y), bd "self" (.ref S)]) :: (ta, tup (zs.map Pt.str)) :: (f1.2.1, nsP f1.2.2) :: (f2.2.1, nsP f2.2.2) :: (S, inst 137 D []) :: (D, dicP (sorD n2 (.ref ra) po nf)) :: l) ?_ F fun b l1 s1 hb F1 => ?_) (fun _ _ z => z) fun _ _ z => z.elim))
    · refine k_tCompare ?_
      refine k_Attr ?_
      refine k_name 0 2 en rfl rfl (by kernel_rfl) ?_
      refine k_getD 4 1 5 rfl rfl rfl (by kernel_rfl) ?_
      refine k_none ?_
      refine k_isnot (by rfl) ?_
      refine k_tb ?_
      exact ⟨rfl, rfl⟩
    obtain ⟨rfl, rfl⟩ := hb
    rw [if_pos rfl]
    refine wpAny_execs_cons (wpAny_Raise_call PySem.F.excCall_ValueError PySem.F.excRaise_ValueError B'.hA.hh rfl ?_)
    refine wpAny_mono (k_bname (v := .type "ValueError") en (by kernel_rfl) (by kernel_rfl) (by kernel_rfl) F1 fun s2 F2 => ?_) (fun _ _ z => z) fun _ _ z => z.elim
    refine ⟨rfl, k_args (wpAny_mono (WL.use (KL := fun ps l' => ps.length = 1 ∧ l' = (L, nsP [bd "predecessors" (.ref ta), bd "node" (.str y), bd "self" (.ref S)]) :: (ta, tup (zs.map Pt.str)) :: (f1.2.1, nsP f1.2.2) :: (f2.2.1, nsP f2.2.2) :: (S, inst 137 D []) :: (D, dicP (sorD n2 (.ref ra) po nf)) :: l) (k_items_cons (k_strAny fun z => k_items_nil ⟨rfl, rfl⟩)) F2 fun vs ps l3 s3 hps hl F3 => ?_) (fun _ _ z => z) fun _ _ z => z.elim)⟩
    obtain ⟨hl1, rfl⟩ := hl
    refine ⟨rfl, by rw [hps.len, hl1]; decide, fun h' e hm => ?_⟩
    obtain ⟨t, ht, _⟩ := hm.there
    have h0 : G.h₀.get? e = none := by
      cases q : G.h₀.get? e with
      | none => rfl
      | some o => have := hm.new; rw [F3.base _ _ q] at this; cases this
    have F4 := (F3.keep (t := s3.toks) hm.keeps).add (P := exN "ValueError") (F3.nonew hm.new) h0 ht ⟨rfl, _, rfl, rfl⟩
    refine r_leave (x := (env, L, [bd "predecessors" (.ref ta), bd "node" (.str y), bd "self" (.ref S)])) (fr := [f1, f2]) (r := (ta, tup (zs.map Pt.str)) :: (S, inst 137 D []) :: (D, dicP (sorD n2 (.ref ra) po nf)) :: l) hfr hok3 (F4.im (.keep .head (.keep .head (.keep (.tail .head) (.keep (.tail .head) .refl))))) fun s' T F5 => ⟨e, T, rfl, F5.im (.keep .head (.keep .head (.drop (.keep .head (.keep .head (.drop .refl))))))⟩
theorem s_shut {S D n2 ra wa : Addr} {po nf : Int} {y : Word} {ys : List Word} {f1 : Frm} (B : Bx G w 2) (hA : B.A.frames = some [f1.1]) (hok : FrOk [f1]) (hz : ys.length ≤ 999)
    (h : KV (.bool true) ((f1.2.1, nsP f1.2.2) :: (S, inst 137 D []) :: (D, dicP (sorD n2 (.ref ra) po nf)) :: (wa, lst ((y :: ys).map Pt.str)) :: l)) :
    WC B ((f1.2.1, nsP f1.2.2) :: (S, inst 137 D []) :: (D, dicP (sorD n2 (.ref ra) po nf)) :: (wa, lst ((y :: ys).map Pt.str)) :: l) (.ref 294) [.ref S, .ref wa] KV := by
  refine k_enterF (fd := f294) (body := fBody st42) (by kernel_rfl) (by kernel_rfl) (by kernel_rfl) (by kernel_rfl) (by kernel_rfl) (by kernel_rfl) (by kernel_rfl) (bind2 (x := "sorter") (y := "words") fun v u => by kernel_rfl) fun L env B KF hfr hf en hR hN => ?_
  rw [hA] at hfr
  have hk0 : env.scope.kind = .function := by rw [en.s]; exact eq_of_beq (by kernel_rfl)
  have hk : env.scope.kind ≠ .module := by rw [hk0]; decide
  have hl : (y :: ys).length ≤ 1000 := by rw [List.length_cons]; omega
  refine k_tryX (xf := (env, L, [bd "words" (.ref wa), bd "sorter" (.ref S)])) (fr := [f1]) (cls := "ValueError") (Th := "ValueError") (Kx := fun l' => Im l' ((f1.2.1, nsP f1.2.2) :: (S, inst 137 D []) :: (D, dicP (sorD n2 (.ref ra) po nf)) :: (wa, lst ((y :: ys).map Pt.str)) :: l)) hfr (fun x hx => by
      rcases List.mem_cons.mp hx with rfl | hx
      · exact ⟨hf, hk⟩
      · exact hok x hx) rfl en (by kernel_rfl) (by kernel_rfl) (by rw [isSubtype_type]; kernel_rfl) (by rw [isSubtype_type]; kernel_rfl) (by rw [isSubtype_type]; kernel_rfl) (by kernel_rfl) (by kernel_rfl) ?_ ?_
  · refine k_imethX 87 f87 ?_
    refine k_name 0 1 en rfl rfl (by kernel_rfl) ?_
    refine k_bound (f := 87) 2 3 rfl rfl rfl (by kernel_rfl) fun mo => ?_
    refine ⟨mo, S, rfl, ⟨0, rfl⟩, by kernel_rfl, ?_⟩
    have e0 : ((y :: ys).map Pt.str)[(0 : Int).toNat]? = some (.str y) := rfl
    refine k_items_cons ?_
    refine k_Subscript ?_
    refine k_name 1 0 en rfl rfl (by kernel_rfl) ?_
    refine k_int ?_
    refine k_get (.ofL 5 rfl) (by omega) (by omega) (by assumption) ?_
    refine k_items_star ?_
    refine k_lslice ?_
    refine k_name 1 0 en rfl rfl (by kernel_rfl) ?_
    refine k_some ?_
    refine k_int ?_
    refine k_absent ?_
    refine ⟨wa, (y :: ys).map Pt.str, some 1, none, rfl, .ofL 5 rfl, ⟨_, by omega, rfl⟩, rfl, fun _ e => (nomatch e), by rw [List.length_map]; omega, fun b1 => ?_⟩
    rw [show (((y :: ys).map Pt.str).drop ((some 1 : Option Nat).getD 0)).take ((none : Option Nat).getD ((y :: ys).map Pt.str).length - (some 1 : Option Nat).getD 0) = ys.map Pt.str by
      simp
      exact List.take_of_length_le (by simp)]
    refine ⟨b1, ys.map Pt.str, rfl, .inl ⟨0, rfl⟩, by rw [List.length_map]; omega, ?_⟩
    refine k_items_nil ?_
    refine ⟨.tail .head, ?_⟩
    rw [List.append_nil]
    have hok2 : FrOk [(env, L, [bd "words" (.ref wa), bd "sorter" (.ref S)]), f1] := fun x hx => by
      rcases List.mem_cons.mp hx with rfl | hx
      · exact ⟨hf, hk⟩
      · exact hok x hx
    refine fun vs hvs s F => codeAny_mono (x_add (l := (wa, lst ((y :: ys).map Pt.str)) :: l) (zs := ys) (f1 := (env, L, [bd "words" (.ref wa), bd "sorter" (.ref S)])) (f2 := f1) B hfr hok2 (by omega) vs hvs s (F.im (.drop (.drop .refl)))) fun r s' z => ?_
    rcases r with e | f
    · obtain ⟨ea, T, rfl, F'⟩ := z
      exact ⟨ea, T, _, rfl, F', .drop .refl⟩
    · exact z.elim
  · intro ea l' s' hK F
    refine wpAny_execs_cons (wpAny_Return_some (wpAny_Constant_bool ?_))
    exact ⟨.ret (.bool true), l', ⟨_, rfl, rfl⟩, F, hR _ _ _ hK h⟩
end
theorem Has.idx {a : Addr} {P : Obj → Prop} : ∀ {l : List Ent}, Has a P l → ∃ i, gE l i = some (a, P)
  | _, .head => ⟨0, rfl⟩
  | _, .tail h => let ⟨i, e⟩ := h.idx; ⟨i + 1, e⟩
theorem outN_shape (ds : List Nd) : ∀ ys, shape (outN ds ys) = shape ds := by
  intro ys
  induction ys generalizing ds with
  | nil => rfl
  | cons y r ih => exact (ih _).trans (setN_shape fun _ => rfl)
noncomputable def stB (x : List Nd × List Word) : List Nd × List Word := doneAll (outN x.1 x.2, []) x.2
noncomputable def rdS (x : List Nd × List Word) : Nat → List Nd × List Word
  | 0 => x
  | k + 1 => stB (rdS x k)
theorem stB_shape (x : List Nd × List Word) : shape (stB x).1 = shape x.1 := (doneAll_shape _ _).trans (outN_shape _ _)
theorem rdS_shape (x : List Nd × List Word) : ∀ k, shape (rdS x k).1 = shape x.1
  | 0 => rfl
  | k + 1 => (stB_shape _).trans (rdS_shape x k)
noncomputable def stU (x : (List Nd × List Word) × List Word) (y : Word) : (List Nd × List Word) × List Word := (doneAll (outN x.1.1 x.1.2, []) [y], x.2 ++ x.1.2)
noncomputable def rdU (x : (List Nd × List Word) × List Word) (ys : List Word) : (List Nd × List Word) × List Word := ys.foldl stU x
theorem stU_shape (x : (List Nd × List Word) × List Word) (y : Word) : shape (stU x y).1.1 = shape x.1.1 := (doneAll_shape _ _).trans (outN_shape _ _)
theorem rdU_shape (x : (List Nd × List Word) × List Word) : ∀ ys, shape (rdU x ys).1.1 = shape x.1.1 := by
  intro ys
  induction ys generalizing x with
  | nil => rfl
  | cons y r ih => exact (ih _).trans (stU_shape _ _)
theorem tuL_has {xs : List (Addr × List Word)} {x : Addr × List Word} (h : x ∈ xs) : Has x.1 (tup (x.2.map Pt.str)) (tuL xs) := Has.of_mem (List.mem_map.mpr ⟨x, h, rfl⟩)
structure Hand01 (x : List Nd × List Word) (st : List (List Word)) : Prop where
  at_ : ∀ k y, st[k]? = some y → (rdS x k).2 = y
  ne : ∀ y ∈ st, y ≠ []
  np : ∀ k ys, st[k]? = some ys → ∀ i y, ys[i]? = some y → npOf (doneAll (outN (rdS x k).1 (rdS x k).2, []) (ys.take i)).1 y = -1
  fin : (rdS x st.length).2 = []
structure Hand2 (x : List Nd × List Word) (due : List Word) : Prop where
  mem : ∀ k y, due[k]? = some y → y ∈ (rdU (x, []) (due.take k)).2 ++ (rdU (x, []) (due.take k)).1.2
  np : ∀ k y, due[k]? = some y → npOf (outN (rdU (x, []) (due.take k)).1.1 (rdU (x, []) (due.take k)).1.2) y = -1
  out : (rdU (x, []) due).2 = due
  rdy : ∀ k, ∀ y ∈ (rdU (x, []) (due.take k)).1.2, y ∈ names x.1
  len : ∀ k, (rdU (x, []) (due.take k)).1.2.length ≤ 100 ∧ (rdU (x, []) (due.take k)).2.length ≤ 1000
  fin : (rdU (x, []) due).1.2 = []
section
variable {G : Gr} {w : World} {l : List Ent} {n : Nat} {KV : Pt → List Ent → Prop} {B : Bx G w n}
theorem WC.post {f : Value} {ps : List Pt} (h : WC B l f ps (fun p l1 => ∃ l2, Im l1 l2 ∧ KV p l2)) : WC B l f ps KV := fun vs hv s F =>
  wpAny_mono (h vs hv s F) (fun v s' ⟨p, l1, hp, F1, l2, hi, hk⟩ => ⟨p, l2, hp, F1.im hi, hk⟩) fun _ _ z => z
theorem WK.post {f : Value} {ps : List Pt} (h : WK B l f ps (fun p l1 => ∃ l2, Im l1 l2 ∧ KV p l2)) : WK B l f ps KV := fun vs hv s F =>
  codeAny_mono (h vs hv s F) fun r s' z => by
    rcases r with e | (v | _ | _ | _) <;> first | exact z.elim | skip
    obtain ⟨p, l1, hp, F1, l2, hi, hk⟩ := z
    exact ⟨p, l2, hp, F1.im hi, hk⟩
theorem im_dropL : ∀ m : List Ent, Im (m ++ l) l
  | [] => .refl
  | _ :: m => .drop (im_dropL m)
theorem im_dropL2 (m m' : List Ent) : Im (m ++ (m' ++ l)) l := by rw [← List.append_assoc]; exact im_dropL _
theorem g_ready {S D n2 ra : Addr} {po nf : Int} {ys : List (List Nat)} {ds : List Nd} {pl : List (Word × Pt)} (m : List Ent) (hpl : places ds = pl) (B : Bx G w 1) (hz : ys.length ≤ 1000) (hnd : (names ds).Nodup) (hys : ∀ y ∈ ys, y ∈ names ds)
    (h : ∀ ta, KV (.ref ta) ((ta, tup (ys.map Pt.str)) :: (S, inst 137 D []) :: (D, dicP (sorD n2 (.ref ra) (po + ys.length) nf)) :: (ra, lst []) :: (n2, dct w pl) :: (m ++ ((outN ds ys).flatMap nodeL ++ l)))) :
    WC B ((S, inst 137 D []) :: (D, dicP (sorD n2 (.ref ra) po nf)) :: (ra, lst (ys.map Pt.str)) :: (n2, dct w pl) :: (m ++ (ds.flatMap nodeL ++ l))) (.ref 99) [.ref S] KV := by
  subst hpl
  refine WC.im (.tl (.tl (.tl (.tl (.perm (List.perm_append_comm_assoc _ _ _) .refl))))) (WC.post (s_getready B hz hnd hys fun ta => ⟨_, ?_, h ta⟩))
  exact .tl (.tl (.tl (.tl (.tl (.perm (List.perm_append_comm_assoc _ _ _) .refl)))))
theorem g_done {S D n2 ra : Addr} {po nf : Int} {rd ys : List Word} {ds : List Nd} {pl : List (Word × Pt)} (m : List Ent) (hpl : places ds = pl) (B : Bx G w 1) (hz : ys.length ≤ 100) (hr : rd.length ≤ 100000) (hnd : (names ds).Nodup) (hys : ∀ y ∈ ys, y ∈ names ds)
    (hsc : ∀ y, (succOf ds y).length ≤ 100 ∧ ∀ s ∈ succOf ds y, s ∈ names ds) (hnp : ∀ k y, ys[k]? = some y → npOf (doneAll (ds, rd) (ys.take k)).1 y = -1)
    (h : KV .none ((S, inst 137 D []) :: (D, dicP (sorD n2 (.ref ra) po (nf + ys.length))) :: (ra, lst ((doneAll (ds, rd) ys).2.map Pt.str)) :: (n2, dct w pl) :: (m ++ ((doneAll (ds, rd) ys).1.flatMap nodeL ++ l)))) :
    WK B ((S, inst 137 D []) :: (D, dicP (sorD n2 (.ref ra) po nf)) :: (ra, lst (rd.map Pt.str)) :: (n2, dct w pl) :: (m ++ (ds.flatMap nodeL ++ l))) (.ref 120) ([.ref S] ++ ys.map Pt.str) KV := by
  subst hpl
  refine WK.im (.tl (.tl (.tl (.tl (.perm (List.perm_append_comm_assoc _ _ _) .refl))))) (WK.post (s_done B hz hr hnd hys hsc hnp fun ta => ⟨_, ?_, h⟩))
  exact .drop (.tl (.tl (.tl (.tl (.perm (List.perm_append_comm_assoc _ _ _) .refl)))))
theorem s_handed {S D n2 ra sa : Addr} {po : Int} {x : List Nd × List Word} {ts : List (Addr × List Word)} {c : Nat} (B : Bx G w 2) (hc : c ≤ 2) (hnd : (names x.1).Nodup) (hsc : ∀ y, (succOf x.1 y).length ≤ 100 ∧ ∀ s ∈ succOf x.1 y, s ∈ names x.1)
    (hst : ∀ y ∈ ts, y.2.length ≤ 100 ∧ (∀ z ∈ y.2, z ∈ names x.1) ∧ ∀ z ∈ y.2, okW z) (htl : ts.length ≤ 100) (hrd : x.2.length ≤ 100) (hdl : ((ts.map (·.2)).flatten).length ≤ 1000)
    (h1 : c < 2 → Hand01 x (ts.map (·.2))) (h2 : c = 2 → Hand2 x (ts.map (·.2)).flatten) (h : KV (.bool true) l) :
    WC B ((S, inst 137 D []) :: (D, dicP (sorD n2 (.ref ra) po po)) :: (ra, lst (x.2.map Pt.str)) :: (n2, dct w (places x.1)) :: (sa, lst (rfs ts)) :: (x.1.flatMap nodeL ++ (tuL ts ++ l))) (.ref 299) [.ref S, .ref sa, .int c] KV := by
  refine k_enter (fd := f299) (body := fBody st43) (by kernel_rfl) (by kernel_rfl) (by kernel_rfl) (by kernel_rfl) (by kernel_rfl) (by kernel_rfl) (by kernel_rfl) (loc := [bd "c" (.int c), bd "stages" (.ref sa), bd "sorter" (.ref S)]) (names := ["c", "stages", "sorter"])
    (fun vs hv => by
      cases hv with | cons h1 hv =>
      cases hv with | cons h2 hv =>
      cases hv with | cons h3 hv =>
      cases hv
      exact ⟨[(_, _), (_, _), (_, _)], by kernel_rfl, rfl, .cons h3 (.cons h2 (.cons h1 .nil))⟩) fun L env B KF en hR hN => ?_
  have hrl : (rfs ts).length = ts.length := by unfold rfs; exact List.length_map ..
  have hfin : ∀ (r : Loc) (ds : List Nd) (po : Int), shape ds = shape x.1 → WF B ((L, nsP (bd "c" (.int c) :: bd "stages" (.ref sa) :: bd "sorter" (.ref S) :: r)) :: (S, inst 137 D []) :: (D, dicP (sorD n2 (.ref ra) po po)) :: (ra, lst []) :: (n2, dct w (places x.1)) :: (sa, lst (rfs ts)) :: (ds.flatMap nodeL ++ (tuL ts ++ l))) (execs ((fBody st43).drop 1) env) KF := fun r ds po hsh => by
    refine k_Return ?_
    refine k_And2 ?_
    refine k_Compare ?_
    refine k_imeth0 (f := 99) (fd := f99) ?_
    refine k_name 0 2 en rfl rfl (by kernel_rfl) ?_
    refine qim 1 2 rfl rfl (by kernel_rfl) (by kernel_rfl) (by kernel_rfl) ?_
    refine WC.im (.keep (.tail .head) (.keep (.tail .head) (.keep (.tail .head) (.keep (.tail .head) .refl)))) (g_ready (ys := []) [_, _] (places_shape hsh) (B.le (by decide)) (by decide) (by rw [names_shape hsh]; exact hnd) (fun _ h => (nomatch h)) fun ta => ?_)
    refine k_Tuple ?_
    refine k_items_nil ?_
    refine ⟨Nat.le_of_ble_eq_true rfl, fun a => ?_⟩
    refine k_eqD (RdP.tup 1 rfl rfl) (RdP.tup 0 rfl rfl) (shaped_tup rfl) (shaped_tup rfl) ?_
    refine k_tb ?_
    refine ⟨fun _ => ?_, fun e => Bool.noConfusion (show true = false from e)⟩
    refine k_UnaryOp ?_
    refine k_imeth0 (f := 106) (fd := f106) ?_
    refine k_name 6 2 en rfl rfl (by kernel_rfl) ?_
    refine qim 2 3 rfl rfl (by kernel_rfl) (by kernel_rfl) (by kernel_rfl) ?_
    refine WC.im (.drop (.drop .refl)) (s_active (ys := []) (B.le (by decide)) (by decide) ?_)
    refine k_not ?_
    refine k_tb ?_
    rw [show (decide (po < po + (([] : List Word).length : Int)) || !([] : List Word).isEmpty) = false by simp]
    exact hR (.bool true) _ l (.drop (.drop (.drop (.drop (.drop (.drop (im_dropL2 (l := l) ((outN ds []).flatMap nodeL) (tuL ts)))))))) h
  refine k_If ?_
  refine k_tCompare ?_
  refine k_name 0 0 en rfl rfl (by kernel_rfl) ?_
  refine k_int ?_
  refine k_lt ?_
  refine k_tb ?_
  refine ⟨fun q => ?_, fun q => ?_⟩
  · have H := h1 (by have := of_decide_eq_true q; omega)
    refine k_forQ ?_
    refine k_name 0 1 en rfl rfl (by kernel_rfl) ?_
    refine k_iterL 5 rfl fun it => ?_
    refine ⟨Int, (rfs ts).length, fun k => li sa k, fun k p => (rfs ts)[k]? = some p, fun _ _ => True, fun k po => (L, nsP [bd "c" (.int c), bd "stages" (.ref sa), bd "sorter" (.ref S), ("stage", none), ("word", none)]) :: (S, inst 137 D []) :: (D, dicP (sorD n2 (.ref ra) po po)) :: (ra, lst ((rdS x k).2.map Pt.str)) :: (n2, dct w (places x.1)) :: (sa, lst (rfs ts)) :: ((rdS x k).1.flatMap nodeL ++ (tuL ts ++ l)),
      ⟨it, po, rfl, trivial, ?_⟩, fun it => src_list (a := sa) fun k l' h => by obtain ⟨_, _, rfl⟩ := h; exact .tail (.tail (.tail (.tail (.tail .head)))), ?_, ?_⟩
    · try dsimp only
      exact imw 1 1 rfl rfl (Wk.w (.keep (.keep (.keep (.new (.new .refl)))))) (imx 7 417753473088 7 rfl (by kernel_rfl))
    · intro it0 k po p KF1 hk _ hp hN1 _ hR1
      obtain ⟨t, ht, rfl⟩ := rfs_at hp
      have htm := List.mem_of_getElem? ht
      have hx := H.at_ k t.2 (by rw [List.getElem?_map, ht]; rfl)
      have hne := H.ne t.2 (List.mem_map.mpr ⟨t, htm, rfl⟩)
      have hnp := H.np k t.2 (by rw [List.getElem?_map, ht]; rfl)
      have hsh := rdS_shape x k
      have hS : (rdS x (k + 1)) = stB (rdS x k) := rfl
      unfold stB at hS
      obtain ⟨ht1, ht2, ht3⟩ := hst t htm
      have hl1 : t.2.length ≤ 1000 := by omega
      try dsimp only
      rw [hx] at hnp hS ⊢
      have ⟨ds, hds⟩ : ∃ z, z = (rdS x k).1 := ⟨_, rfl⟩
      rw [← hds] at hnp hS hsh ⊢
      have hnd2 : (names ds).Nodup := by rw [names_shape hsh]; exact hnd
      have hpl := places_shape hsh
      refine k_asgN ?_
      refine k_store 1 3 en rfl (by kernel_rfl) ?_
      refine k_If ?_
      refine k_tBoolOp ?_
      refine k_Or ?_
      refine k_tNot ?_
      refine k_tVal ?_
      refine k_imeth0 (f := 106) (fd := f106) ?_
      refine k_name 1 2 en rfl rfl (by kernel_rfl) ?_
      refine qim 2 3 rfl rfl (by kernel_rfl) (by kernel_rfl) (by kernel_rfl) ?_
      refine WC.im (.keep (.tail (.tail .head)) (.keep (.tail (.tail .head)) (.keep (.tail (.tail .head)) .refl))) (s_active (B.le (by decide)) (by assumption) ?_)
      refine k_tb ?_
      refine and_f (by cases e : t.2 with | nil => exact absurd e hne | cons => simp) ?_
      refine k_Or ?_
      refine k_tCompare ?_
      refine k_imeth0 (f := 99) (fd := f99) ?_
      refine k_name 4 2 en rfl rfl (by kernel_rfl) ?_
      refine qim 0 1 rfl rfl (by kernel_rfl) (by kernel_rfl) (by kernel_rfl) ?_
      refine WC.im (.tl (.tl (.tl (.keep (.tail (.tail .head)) .refl)))) (g_ready [_, _, _] hpl (B.le (by decide)) hl1 hnd2 (by rw [names_shape hsh]; exact ht2) fun ta => ?_)
      have hH : ∀ (m : List Ent) (ds' : List Nd), Has t.1 (tup (t.2.map Pt.str)) (m ++ (ds'.flatMap nodeL ++ (tuL ts ++ l))) := fun m ds' => Has.right (Has.right (Has.left (tuL_has htm) l) _) m
      have hfl := flat_strs ht3
      have hso : shape (outN ds t.2) = shape x.1 := (outN_shape _ _).trans hsh
      have hno : (names (outN ds t.2)).Nodup := by rw [names_shape hso]; exact hnd
      have hsc2 : ∀ y, (succOf (outN ds t.2) y).length ≤ 100 ∧ ∀ s ∈ succOf (outN ds t.2) y, s ∈ names (outN ds t.2) := fun y => by rw [succ_shape hso, names_shape hso]; exact hsc y
      refine k_name 6 3 en rfl rfl (by kernel_rfl) ?_
      obtain ⟨i1, hi1⟩ := (hH [_, _, _, _, _, _, _, _] (outN ds t.2)).idx
      refine k_neD (RdP.tup 0 rfl hfl) (RdP.tup i1 hi1 hfl) (shaped_tup hfl) (shaped_tup hfl) ?_
      rw [show PyData.eqv (.tuple ((t.2.map Pt.str).map pdP)) (.tuple ((t.2.map Pt.str).map pdP)) = true by rw [PyData.eqv, eqv_strs, beq_self_eq_true]]
      refine k_tb ?_
      refine ⟨fun e => Bool.noConfusion (show false = true from e), fun _ => ?_⟩
      refine k_Or_nil ?_
      refine ⟨fun e => Bool.noConfusion (show false = true from e), fun _ => ?_⟩
      refine k_nil ?_
      refine nx_next ?_
      refine k_If ?_
      refine k_tCompare ?_
      refine k_name 6 0 en rfl rfl (by kernel_rfl) ?_
      refine k_int ?_
      refine k_eq ?_
      refine k_tb ?_
      refine ⟨fun q2 => ?_, fun q2 => ?_⟩
      · refine k_Expr en (by kernel_rfl) ?_
        refine k_imethBS 120 f120 ?_
        refine k_name 6 2 en rfl rfl (by kernel_rfl) ?_
        refine k_bound (f := 120) 1 2 rfl rfl rfl (by kernel_rfl) fun mo => ?_
        refine ⟨mo, S, rfl, ⟨0, rfl⟩, by kernel_rfl, ?_⟩
        refine k_name 7 3 en rfl rfl (by kernel_rfl) ?_
        obtain ⟨i2, hi2⟩ := (hH [_, _, _, _, _, _, _, _, _] (outN ds t.2)).idx
        refine ⟨t.1, t.2.map Pt.str, rfl, .inr ⟨i2, hi2⟩, by rw [List.length_map]; omega, .head, ?_⟩
        refine WK.im (.keep (.tail (.tail .head)) (.keep (.tail (.tail .head)) (.keep (.tail (.tail .head)) (.keep (.tail (.tail .head)) .refl)))) (g_done [_, _, _, _, _] (places_shape hso) (B.le (by decide)) ht1 (by decide) hno (by rw [names_shape hso]; exact ht2) hsc2 hnp ?_)
        refine ⟨rfl, ?_⟩
        refine k_nil ?_
        refine nx_next ?_
        refine k_nil ?_
        refine (hN1 _ (po + t.2.length) trivial ?_).1
        try dsimp only
        rw [hS]
        exact imw 7 1 rfl rfl (Wk.w (.keep (.keep (.keep (.forget .refl))))) (imx 7 553010856390 9 rfl (by kernel_rfl))
      · skip
        refine k_forQ ?_
        refine k_name 6 3 en rfl rfl (by kernel_rfl) ?_
        obtain ⟨i2, hi2⟩ := (hH [_, _, _, _, _, _, _, _] (outN ds t.2)).idx
        refine k_iterT i2 hi2 fun it1 => ?_
        refine ⟨Unit, (t.2.map Pt.str).length, fun i => ti t.1 i, fun i p => (t.2.map Pt.str)[i]? = some p, fun _ _ => True,
          fun i _ => (S, inst 137 D []) :: (D, dicP (sorD n2 (.ref ra) (po + t.2.length) (po + i))) :: (ra, lst ((doneAll (outN ds t.2, []) (t.2.take i)).2.map Pt.str)) :: (n2, dct w (places x.1)) :: (it0, li sa (k + 1)) :: (L, nsP [bd "c" (.int c), bd "stages" (.ref sa), bd "sorter" (.ref S), ("stage", none), ("word", none)]) :: (sa, lst (rfs ts)) :: ((doneAll (outN ds t.2, []) (t.2.take i)).1.flatMap nodeL ++ (tuL ts ++ l)),
          ⟨it1, (), rfl, trivial, ?_⟩, fun it => src_tup (a := t.1) fun k l' h => by obtain ⟨_, _, rfl⟩ := h; exact hH [_, _, _, _, _, _, _] _, ?_, ?_⟩
        · try dsimp only
          rw [show po + ((0 : Nat) : Int) = po by omega]
          exact imw 7 6 rfl rfl (Wk.w (.keep (.keep (.keep (.forget .refl))))) (imx 8 35671935824000 9 rfl (by kernel_rfl))
        · intro it2 i _ p KF2 hi _ hp hN2 _ _
          obtain ⟨y, hy, rfl⟩ := str_at hp
          have hnpi := hnp i y hy
          have htk := doneAll_take (x := (outN ds t.2, [])) hy
          have hshi := doneAll_shape (outN ds t.2, []) (t.2.take i)
          have hlen := doneAll_len (outN ds t.2, []) (fun y => (hsc2 y).1) (t.2.take i)
          rw [List.length_take] at hlen
          try dsimp only [List.length_nil] at hlen
          have hil : i < t.2.length := by rw [List.length_map] at hi; exact hi
          try dsimp only
          generalize doneAll (outN ds t.2, []) (t.2.take i) = z at *
          obtain ⟨d1, r1⟩ := z
          try dsimp only at hnpi hshi hlen ⊢
          have hs1 : shape d1 = shape x.1 := hshi.trans hso
          refine k_asgN ?_
          refine k_store 6 4 en rfl (by kernel_rfl) ?_
          refine k_Expr en (by kernel_rfl) ?_
          refine k_imeth (f := 120) (fd := f120) ?_
          refine k_name 6 2 en rfl rfl (by kernel_rfl) ?_
          refine qim 1 2 rfl rfl (by kernel_rfl) (by kernel_rfl) (by kernel_rfl) ?_
          refine k_items_cons ?_
          refine k_name 6 4 en rfl rfl (by kernel_rfl) ?_
          refine k_items_nil ?_
          refine WC.im (.keep (.tail .head) (.keep (.tail .head) (.keep (.tail .head) (.keep (.tail .head) .refl)))) (g_done (ys := [y]) [_, _, _, _] (places_shape hs1) (B.le (by decide)) (Nat.le_of_ble_eq_true rfl) (by omega) (by rw [names_shape hs1]; exact hnd)
            (fun z hz => by rw [List.mem_singleton.mp hz, names_shape hs1]; exact ht2 y (List.mem_of_getElem? hy)) (fun y => by rw [succ_shape hs1, names_shape hs1]; exact hsc y) (fun k' y' e => by
              cases k' with
              | zero => cases e; exact hnpi
              | succ k' => simp at e) ?_).wc
          refine ⟨rfl, ?_⟩
          refine k_nil ?_
          refine (hN2 _ () trivial ?_).1
          try dsimp only
          rw [show po + ((i + 1 : Nat) : Int) = po + i + (([y] : List Word).length : Int) by simp; omega, htk]
          exact imw 6 6 rfl rfl (Wk.w (.keep (.keep (.keep (.keep (.forget .refl)))))) (imx 8 31204062007300 8 rfl (by kernel_rfl))
        · intro _ _
          try dsimp only
          rw [List.length_map, List.take_length]
          refine k_nil ?_
          refine nx_next ?_
          refine k_nil ?_
          refine nx_next ?_
          refine k_nil ?_
          refine (hN1 _ (po + t.2.length) trivial ?_).1
          try dsimp only
          rw [hS]
          exact imx 7 415571902788 7 rfl (by kernel_rfl)
    · intro po _
      try dsimp only
      have he := H.fin
      rw [List.length_map] at he
      rw [hrl, he]
      refine k_nil ?_
      refine nx_next ?_
      refine k_nil ?_
      refine nx_next ?_
      exact hfin _ _ _ (rdS_shape x _)
  · have H := h2 (by have := of_decide_eq_false q; omega)
    have hdm : ∀ z ∈ (ts.map (·.2)).flatten, z ∈ names x.1 := fun z hz => by
      obtain ⟨ys, h3, h4⟩ := List.mem_flatten.mp hz
      obtain ⟨t, ht, rfl⟩ := List.mem_map.mp h3
      exact (hst t ht).2.1 z h4
    have hfl := flat_strs (ys := (ts.map (·.2)).flatten) fun z hz => by
      obtain ⟨ys, h3, h4⟩ := List.mem_flatten.mp hz
      obtain ⟨t, ht, rfl⟩ := List.mem_map.mp h3
      exact (hst t ht).2.2 z h4
    refine k_AsgListComp [] en rfl (by kernel_rfl) (by kernel_rfl) ?_
    refine k_name 0 1 en rfl rfl (by kernel_rfl) ?_
    refine k_iterL 5 rfl fun it => ?_
    refine ⟨it, rfl, fun acc C env2 en2 => ?_⟩
    refine k_comp01 (α := Unit) (ifs := []) (rfs ts).length (fun k => li sa k) (fun k p => (rfs ts)[k]? = some p) (fun _ _ => True)
      (fun k _ => (C, nsP [("stage", none), ("word", none)]) :: (acc, lst ((((ts.take k).map (·.2)).flatten).map Pt.str)) :: (L, nsP [bd "c" (.int c), bd "stages" (.ref sa), bd "sorter" (.ref S)]) :: (S, inst 137 D []) :: (D, dicP (sorD n2 (.ref ra) po po)) :: (ra, lst (x.2.map Pt.str)) :: (n2, dct w (places x.1)) :: (sa, lst (rfs ts)) :: (x.1.flatMap nodeL ++ (tuL ts ++ l)))
      (fun it => src_list (a := sa) fun k l' h => by obtain ⟨_, _, rfl⟩ := h; exact .tail (.tail (.tail (.tail (.tail (.tail (.tail .head))))))) ?_ ?_ it () trivial ?_ (self_li 2 rfl)
    · intro it0 k _ p K2 hk _ hp hK2
      obtain ⟨t, ht, rfl⟩ := rfs_at hp
      have htm := List.mem_of_getElem? ht
      have hH : ∀ (m : List Ent), Has t.1 (tup (t.2.map Pt.str)) (m ++ (x.1.flatMap nodeL ++ (tuL ts ++ l))) := fun m => Has.right (Has.right (Has.left (tuL_has htm) l) _) m
      have hts : ((ts.take (k + 1)).map (·.2)).flatten = ((ts.take k).map (·.2)).flatten ++ t.2 := by
        rw [List.take_succ, ht, Option.toList_some, List.map_append, List.flatten_append]
        simp
      have hle : ((ts.take k).map (·.2)).flatten.length + t.2.length ≤ 1000 := by
        have e1 : (ts.map (·.2)).flatten = ((ts.take (k + 1)).map (·.2)).flatten ++ ((ts.drop (k + 1)).map (·.2)).flatten := by rw [← List.flatten_append, ← List.map_append, List.take_append_drop]
        rw [e1, hts, List.length_append, List.length_append] at hdl
        omega
      refine k_asgTN ?_
      refine k_store 1 0 en2 rfl (by kernel_rfl) ?_
      refine k_name 1 0 en2 rfl rfl (by kernel_rfl) ?_
      obtain ⟨i1, hi1⟩ := (hH [_, _, _, _, _, _, _, _, _]).idx
      refine k_iterT i1 hi1 fun it1 => ?_
      refine ⟨it1, rfl, ?_⟩
      refine k_comp2 (α := Unit) (t.2.map Pt.str).length (fun k => ti t.1 k) (fun k p => (t.2.map Pt.str)[k]? = some p) (fun _ _ => True)
        (fun j _ => (C, nsP [("stage", none), ("word", none)]) :: (acc, lst ((((ts.take k).map (·.2)).flatten ++ t.2.take j).map Pt.str)) :: (it0, li sa (k + 1)) :: (L, nsP [bd "c" (.int c), bd "stages" (.ref sa), bd "sorter" (.ref S)]) :: (S, inst 137 D []) :: (D, dicP (sorD n2 (.ref ra) po po)) :: (ra, lst (x.2.map Pt.str)) :: (n2, dct w (places x.1)) :: (sa, lst (rfs ts)) :: (x.1.flatMap nodeL ++ (tuL ts ++ l)))
        (fun it => src_tup (a := t.1) fun k l' h => by obtain ⟨_, _, rfl⟩ := h; exact hH [_, _, _, _, _, _, _, _, _]) ?_ ?_ it1 () trivial ?_ (self_ti 0 rfl)
      · intro it2 j _ p K3 hj _ hp hK3
        obtain ⟨o, ho, rfl⟩ := str_at hp
        have hb2 : ((((ts.take k).map (·.2)).flatten ++ t.2.take j).map Pt.str).length ≤ 1000 := by
          have : (t.2.take j).length ≤ t.2.length := List.length_take_le' ..
          rw [List.length_map, List.length_append]; omega
        refine k_asgTN ?_
        refine k_store 1 1 en2 rfl (by kernel_rfl) ?_
        refine wifs_nil ?_
        refine k_name 1 1 en2 rfl rfl (by kernel_rfl) ?_
        refine c_append 2 rfl (by first | decide | omega | (simp; omega) | exact Nat.le_of_ble_eq_true rfl | (simp; done)) ?_
        refine hK3 _ () trivial ?_
        rw [List.take_succ, ho, Option.toList_some, ← List.append_assoc ((ts.take k).map (·.2)).flatten, List.map_append (l₂ := [o])]
        exact imw 1 1 rfl rfl (Wk.w (.keep (.forget .refl))) (imx 10 164412590478073920 10 rfl (by kernel_rfl))
      · intro _ _
        refine hK2 _ () trivial ?_
        rw [hts, List.length_map, List.take_length]
        exact imx 9 2283003892731906 9 rfl (by kernel_rfl)
      · rw [List.take_zero, List.append_nil]
        exact imw 2 1 rfl rfl (Wk.w (.forget .refl)) (imx 10 164412590477553792 10 rfl (by kernel_rfl))
    · intro _ _
      rw [hrl, List.take_length]
      have ⟨du, hdu⟩ : ∃ z, z = (ts.map (·.2)).flatten := ⟨_, rfl⟩
      rw [← hdu] at H hfl hdl hdm ⊢
      refine k_store 2 3 en rfl (by kernel_rfl) ?_
      refine k_endC (.keep .head .refl) ?_
      refine k_Assign ?_
      refine k_List ?_
      refine k_items_nil ?_
      refine ⟨Nat.le_of_ble_eq_true rfl, fun a => ?_⟩
      refine k_store 2 4 en rfl (by kernel_rfl) ?_
      refine k_forQ ?_
      refine k_name 2 3 en rfl rfl (by kernel_rfl) ?_
      refine k_iterL 1 rfl fun it => ?_
      refine ⟨Unit, (du.map Pt.str).length, fun k => li acc k, fun k p => (du.map Pt.str)[k]? = some p, fun _ _ => True,
        fun k _ => (L, nsP [bd "c" (.int c), bd "stages" (.ref sa), bd "sorter" (.ref S), bd "due" (.ref acc), bd "out" (.ref a), ("word", none)]) :: (a, lst ((rdU (x, []) (du.take k)).2.map Pt.str)) :: (acc, lst (du.map Pt.str)) :: (S, inst 137 D []) :: (D, dicP (sorD n2 (.ref ra) (po + ((rdU (x, []) (du.take k)).2.length : Nat)) (po + k))) :: (ra, lst ((rdU (x, []) (du.take k)).1.2.map Pt.str)) :: (n2, dct w (places x.1)) :: (sa, lst (rfs ts)) :: ((rdU (x, []) (du.take k)).1.1.flatMap nodeL ++ (tuL ts ++ l)),
        ⟨it, (), rfl, trivial, ?_⟩, fun it => src_list (a := acc) fun k l' h => by obtain ⟨_, _, rfl⟩ := h; exact .tail (.tail .head), ?_, ?_⟩
      · try dsimp only
        show Im _ ((it, li acc 0) :: (L, nsP [bd "c" (.int c), bd "stages" (.ref sa), bd "sorter" (.ref S), bd "due" (.ref acc), bd "out" (.ref a), ("word", none)]) :: (a, lst []) :: (acc, lst (du.map Pt.str)) :: (S, inst 137 D []) :: (D, dicP (sorD n2 (.ref ra) (po + ((0 : Nat) : Int)) (po + ((0 : Nat) : Int)))) :: (ra, lst (x.2.map Pt.str)) :: (n2, dct w (places x.1)) :: (sa, lst (rfs ts)) :: (x.1.flatMap nodeL ++ (tuL ts ++ l)))
        rw [show po + ((0 : Nat) : Int) = po by omega]
        exact imw 3 1 rfl rfl (Wk.w (.keep (.keep (.keep (.keep (.keep (.new .refl))))))) (imx 9 2283003892469952 9 rfl (by kernel_rfl))
      · intro it1 k _ p KF1 hk _ hp hN1 _ hR1
        obtain ⟨y, hy, rfl⟩ := str_at hp
        have hkl : k < du.length := by rw [List.length_map] at hk; exact hk
        have hmem := H.mem k y hy
        have hnp := H.np k y hy
        have hrdy := H.rdy k
        obtain ⟨hl1, hl2⟩ := H.len k
        have hsh := rdU_shape (x, []) (du.take k)
        have hS : rdU (x, []) (du.take (k + 1)) = stU (rdU (x, []) (du.take k)) y := fold_succ hy
        unfold stU at hS
        have ⟨z, hz⟩ : ∃ z, z = rdU (x, []) (du.take k) := ⟨_, rfl⟩
        try dsimp only
        rw [← hz] at hmem hnp hrdy hl1 hl2 hsh hS ⊢
        clear hz
        obtain ⟨⟨ds, rd⟩, out⟩ := z
        try dsimp only at hmem hnp hrdy hl1 hl2 hsh hS ⊢
        have hnd2 : (names ds).Nodup := by rw [names_shape hsh]; exact hnd
        have hso : shape (outN ds rd) = shape x.1 := (outN_shape _ _).trans hsh
        have hrl1 : rd.length ≤ 1000 := by omega
        refine k_asgN ?_
        refine k_store 1 5 en rfl (by kernel_rfl) ?_
        refine k_Expr en (by kernel_rfl) ?_
        refine k_lmeth PySem.F.slot_list_extend PySem.F.type_list_extend ?_
        refine k_name 1 4 en rfl rfl (by kernel_rfl) ?_
        refine qm 2 rfl ?_
        refine k_meth1 ?_
        refine k_imeth0 (f := 99) (fd := f99) ?_
        refine k_name 1 2 en rfl rfl (by kernel_rfl) ?_
        refine qim 4 5 rfl rfl (by kernel_rfl) (by kernel_rfl) (by kernel_rfl) ?_
        refine WC.im (.keep (.tail (.tail (.tail (.tail .head)))) (.keep (.tail (.tail (.tail (.tail .head)))) (.keep (.tail (.tail (.tail (.tail .head)))) (.keep (.tail (.tail (.tail (.tail .head)))) .refl)))) (g_ready [_, _, _, _, _] (places_shape hsh) (B.le (by decide)) hrl1 hnd2 (by rw [names_shape hsh]; exact hrdy) fun ta => ?_)
        refine c_extendT 7 0 rfl rfl (by first | decide | omega | (simp; omega) | exact Nat.le_of_ble_eq_true rfl | (simp; done)) ?_
        refine ⟨rfl, ?_⟩
        refine k_If ?_
        refine k_tCompare ?_
        refine k_name 6 5 en rfl rfl (by kernel_rfl) ?_
        refine k_name 6 4 en rfl rfl (by kernel_rfl) ?_
        rw [← List.map_append]
        refine k_lnin (.ofL 7 rfl) ?_
        refine k_tb ?_
        refine and_f (by
          rw [Bool.not_eq_false']
          exact List.any_eq_true.mpr ⟨y, hmem, by simp⟩) ?_
        refine k_nil ?_
        refine nx_next ?_
        refine k_Expr en (by kernel_rfl) ?_
        refine k_imeth (f := 120) (fd := f120) ?_
        refine k_name 6 2 en rfl rfl (by kernel_rfl) ?_
        refine qim 1 2 rfl rfl (by kernel_rfl) (by kernel_rfl) (by kernel_rfl) ?_
        refine k_items_cons ?_
        refine k_name 6 5 en rfl rfl (by kernel_rfl) ?_
        refine k_items_nil ?_
        refine WC.im (.keep (.tail .head) (.keep (.tail .head) (.keep (.tail .head) (.keep (.tail .head) (.keep .head (.keep .head (.keep .head (.keep .head (.keep .head (.keep .head .refl)))))))))) (g_done (rd := []) (ys := [y]) [_, _, _, _, _, _] (places_shape hso) (B.le (by decide)) (Nat.le_of_ble_eq_true rfl) (by decide) (by rw [names_shape hso]; exact hnd)
          (fun z hz => by rw [List.mem_singleton.mp hz, names_shape hso]; exact hdm y (List.mem_of_getElem? hy)) (fun y => by rw [succ_shape hso, names_shape hso]; exact hsc y) (fun k' y' e => by
            cases k' with
            | zero => cases e; exact hnp
            | succ k' => simp at e) ?_).wc
        refine ⟨rfl, ?_⟩
        refine k_nil ?_
        refine (hN1 _ () trivial ?_).1
        try dsimp only
        rw [hS, List.length_append, show po + ((out.length + rd.length : Nat) : Int) = po + out.length + rd.length by omega, show po + ((k + 1 : Nat) : Int) = po + k + (([y] : List Word).length : Int) by simp; omega]
        exact imw 6 1 rfl rfl (Wk.w (.keep (.keep (.keep (.keep (.keep (.forget .refl))))))) (imx 9 2546607444750725 10 rfl (by kernel_rfl))
      · intro _ _
        try dsimp only
        rw [List.length_map, List.take_length, H.out, H.fin]
        refine k_nil ?_
        refine nx_next ?_
        refine k_If ?_
        refine k_tCompare ?_
        refine k_name 0 4 en rfl rfl (by kernel_rfl) ?_
        refine k_name 0 3 en rfl rfl (by kernel_rfl) ?_
        refine k_neD (RdP.lst 1 rfl hfl) (RdP.lst 2 rfl hfl) (shaped_lst hfl) (shaped_lst hfl) ?_
        rw [show PyData.eqv (.list ((du.map Pt.str).map pdP)) (.list ((du.map Pt.str).map pdP)) = true by rw [PyData.eqv, eqv_strs, beq_self_eq_true]]
        refine k_tb ?_
        refine and_f rfl ?_
        refine k_nil ?_
        refine nx_next ?_
        refine k_nil ?_
        refine nx_next ?_
        exact WF.im (.keep .head (.drop (.drop .refl))) (hfin _ _ _ (rdU_shape (x, []) du))
    · exact imw 0 1 rfl rfl (Wk.w (.new (.new .refl))) (imx 9 2283003892731906 9 rfl (by kernel_rfl))
end
noncomputable def fmA : List (Addr × List (Addr × Nat × Nat)) := [(212, [(205, 40960, 108), (206, 49152, 115), (207, 32768, 45), (208, 24576, 98), (209, 16384, 100), (210, 8192, 99), (211, 4096, 112)]), (214, [(213, 256, 114)]), (216, [(215, 128, 119)]),
  (220, [(217, 2112, 115), (218, 2048, 83), (219, 64, 120)]), (222, [(221, 32, 114)]), (224, [(223, 16, 119)]), (228, [(225, 1032, 115), (226, 1024, 83), (227, 8, 120)]), (230, [(229, 4, 114)]), (232, [(231, 2, 119)]), (236, [(233, 513, 116), (234, 512, 84), (235, 1, 120)])]
noncomputable def ptB : Pt → Value → Bool
  | .int i, .int j _ => i == j
  | .str y, .str z _ => z == S y
  | .ref a, .ref b => a == b
  | _, _ => false
theorem ptB_ok {p : Pt} {v : Value} (h : ptB p v = true) : p.ok v := by
  cases p with
  | int i => cases v <;> first | (simp [ptB] at h; done) | (rename_i j t; rw [show i = j from eq_of_beq h]; exact ⟨t, rfl⟩)
  | str y => cases v <;> first | (simp [ptB] at h; done) | (rename_i z t; rw [show z = S y from eq_of_beq h]; exact ⟨t, rfl⟩)
  | ref a => cases v <;> first | (simp [ptB] at h; done) | (rename_i b; rw [show a = b from eq_of_beq h]; exact rfl)
  | none => cases h
  | bool _ => cases h
  | bi _ => cases h
  | ty _ => cases h
  | any => trivial
noncomputable def ptsB : List Pt → List Value → Bool
  | [], [] => true
  | p :: ps, v :: vs => ptB p v && ptsB ps vs
  | _, _ => false
theorem ptsB_ok : ∀ {ps : List Pt} {vs : List Value}, ptsB ps vs = true → Oks ps vs
  | [], [], _ => .nil
  | _ :: _, _ :: _, h => .cons (ptB_ok (Bool.and_eq_true_iff.mp h).1) (ptsB_ok (Bool.and_eq_true_iff.mp h).2)
  | [], _ :: _, h => by cases h
  | _ :: _, [], h => by cases h
noncomputable def okT (P : Params) (a : Addr) (ps : List Pt) : Bool := match (K P).lookup a with
  | some ⟨.type "tuple", none, .seq vs _, sl⟩ => sl.size == 0 && ptsB ps vs.toList
  | _ => false
theorem okT_bt {G : Gr} {w : World} {a : Addr} {ps : List Pt} (bs : Bs G w) (h : okT w.params a ps = true) : BT G a ps := by
  unfold okT at h
  split at h
  · rename_i vs n sl e
    simp only [Bool.and_eq_true, beq_iff_eq] at h
    have : sl = #[] := Array.eq_empty_of_size_eq_zero h.1
    subst this
    exact ⟨vs.toList, n, ptsB_ok h.2, by simpa using bs.X _ _ e⟩
  · cases h
theorem fm_all (P : Params) : (okT P 237 (fmA.map fun x => Pt.ref x.1) && fmA.all fun x => okT P x.1 (x.2.map fun y => Pt.ref y.1) && x.2.all fun y => okT P y.1 [.int y.2.1, .str [y.2.2]]) = true := by kernel_rfl
noncomputable def fmHit (mode : Int) (k : Nat) (y : Addr × Nat × Nat) : Bool := if k = 0 then Builtin.bitAnd mode 61440 == (y.2.1 : Int) else Builtin.bitAnd mode y.2.1 == (y.2.1 : Int)
noncomputable def fmCh (mode : Int) (k : Nat) (ys : List (Addr × Nat × Nat)) : Nat := match ys.find? (fmHit mode k) with
  | some y => y.2.2
  | none => if k = 0 then 63 else 45
noncomputable def fmW (mode : Int) (n : Nat) : Word := (List.range n).map fun k => fmCh mode k ((fmA.getD k (0, [])).2)
theorem fmW_succ (mode : Int) (n : Nat) : fmW mode (n + 1) = fmW mode n ++ [fmCh mode n ((fmA.getD n (0, [])).2)] := by unfold fmW; rw [List.range_succ, List.map_append]; rfl
theorem fmW_len (mode : Int) (n : Nat) : (fmW mode n).length = n := by unfold fmW; simp
section
variable {G : Gr} {w : World} {l : List Ent} {n : Nat} {KV : Pt → List Ent → Prop} {B : Bx G w n}
theorem fm_top (bs : Bs G w) : BT G 237 (fmA.map fun x => Pt.ref x.1) := okT_bt bs (Bool.and_eq_true_iff.mp (fm_all w.params)).1
theorem fm_part (bs : Bs G w) {k : Nat} {x : Addr × List (Addr × Nat × Nat)} (h : fmA[k]? = some x) : BT G x.1 (x.2.map fun y => Pt.ref y.1) ∧ ∀ y ∈ x.2, BT G y.1 [.int y.2.1, .str [y.2.2]] := by
  have h1 := List.all_eq_true.mp (Bool.and_eq_true_iff.mp (fm_all w.params)).2 x (List.mem_of_getElem? h)
  obtain ⟨h2, h3⟩ := Bool.and_eq_true_iff.mp h1
  exact ⟨okT_bt bs h2, fun y hy => okT_bt bs (List.all_eq_true.mp h3 y hy)⟩
theorem flat_one : ∀ y : Word, (y.map fun c => [c]).flatten = y
  | [] => rfl
  | c :: r => by rw [List.map_cons, List.flatten_cons, flat_one r]; rfl
theorem find_take {α : Type} {f : α → Bool} {xs : List α} {j : Nat} {y : α} (h1 : (xs.take j).find? f = none) (h2 : xs[j]? = some y) (h3 : f y = true) : xs.find? f = some y := by
  obtain ⟨hj, hy⟩ := List.getElem?_eq_some_iff.mp h2
  have e := (List.take_append_drop j xs).symm
  rw [List.drop_eq_getElem_cons hj, hy] at e
  rw [e, List.find?_append, h1]
  simp [h3]
theorem k_asgTupB {env : Env} {pos : Pos} {KU : List Ent → Prop} {elts : List Expr} {x1} {T : Addr} {us : List Pt} (hT : BT G T us) (hn : (assignEach elts env).length = us.length) (hs : (assignEach elts env).findIdx? (·.1) = none)
    (h : WIO B ((assignEach elts env).map (·.2)) us KU l) : WU1 B l (assign (.Tuple elts x1 pos) env) (.ref T) KU := fun v hv s F => by
  cases hv
  obtain ⟨vs, ho, e⟩ := hT.at F
  refine wpAny_assign_Tuple B.hA.hh e (by rw [hn, List.size_toArray, ho.len]) hs fun h' hs' => ?_
  exact wio_run h ho (F.keep (t := s.toks) fun b o q => hs' b o (Nat.ne_of_lt (Heap.lt_size q)) q)
theorem s_filemode {mode : Int} (B : Bx G w 2) (h : KV (.str (fmW mode 10)) l) : WC B l (.ref 244) [.int mode] KV := by
  refine k_enter (fd := f244) (body := fBody st33) (by kernel_rfl) (by kernel_rfl) (by kernel_rfl) (by kernel_rfl) (by kernel_rfl) (by kernel_rfl) (by kernel_rfl) (bind1 (x := "mode") fun v => by kernel_rfl) fun L env B KF en hR hN => ?_
  refine k_Assign ?_
  refine k_List ?_
  refine k_items_nil ?_
  refine ⟨Nat.le_of_ble_eq_true rfl, fun a => ?_⟩
  refine k_store 1 1 en rfl (by kernel_rfl) ?_
  refine k_forG ?_
  refine k_tcall (T := "enumerate") en (by kernel_rfl) (by kernel_rfl) (by kernel_rfl) ?_
  refine k_items_cons ?_
  refine k_global (v := .ref 237) en (by kernel_rfl) okR (by kernel_rfl) ?_
  refine k_items_nil ?_
  refine c_enumB (fm_top B.bs) fun e it => ?_
  refine k_iterEn rfl .head ?_
  refine ⟨e, Unit, 10, fun _ _ => True, fun k _ => (e, enE it k .none) :: (it, ti 237 k) :: (a, lst ((fmW mode k).map fun c => Pt.str [c])) :: (L, nsP [bd "mode" (.int mode), bd "perm" (.ref a), ("index", none), ("table", none), ("bit", none), ("char", none)]) :: l, (), rfl, trivial, ?_, ?_, ?_⟩
  · exact imw 3 3 rfl rfl (Wk.w (.keep (.keep (.new (.new (.new (.new .refl))))))) (imx 4 794688 4 rfl (by kernel_rfl))
  · intro k _ KF1 hk _ hN1 _ _
    have ⟨x, hx⟩ : ∃ x, fmA[k]? = some x := ⟨_, List.getElem?_eq_getElem hk⟩
    obtain ⟨h1, h2⟩ := fm_part B.bs hx
    refine n_enum (fm_top B.bs) (p := .ref x.1) (by rw [List.getElem?_map, hx]; rfl) fun T => ⟨_, rfl, ?_⟩
    refine WU1.im (.keep (.tail .head) .refl) (k_letEn ?_)
    refine k_asgTup (.tail .head) rfl rfl ?_
    refine k_asgN ?_
    refine k_store 4 2 en rfl (by kernel_rfl) ?_
    refine k_asgN ?_
    refine k_store 4 3 en rfl (by kernel_rfl) ?_
    refine wio_nil ?_
    refine k_forG ?_
    refine k_name 4 3 en rfl rfl (by kernel_rfl) ?_
    refine k_iterTB h1 fun it2 => ?_
    have hg : (fmA.getD k (0, [])).2 = x.2 := by rw [List.getD_eq_getElem?_getD, hx]; rfl
    have hml : (fmW mode k).length = k := fmW_len mode k
    refine ⟨it2, Unit, (x.2.map fun y => Pt.ref y.1).length, fun j _ => (x.2.take j).find? (fmHit mode k) = none, fun j _ => (it2, ti x.1 j) :: (e, enE it (k + 1) .none) :: (it, ti 237 (k + 1)) :: (a, lst ((fmW mode k).map fun c => Pt.str [c])) :: (L, nsP [bd "mode" (.int mode), bd "perm" (.ref a), bd "index" (.int k), ("table", none), ("bit", none), ("char", none)]) :: l, (), rfl, rfl, ?_, ?_, ?_⟩
    · try dsimp only
      exact imw 5 4 rfl rfl (Wk.w (.keep (.keep (.keep (.forget .refl))))) (imx 5 84947008 6 rfl (by kernel_rfl))
    · intro j _ KF2 hj hno hN2 hB2 _
      have ⟨y, hy⟩ : ∃ y, x.2[j]? = some y := ⟨_, List.getElem?_eq_getElem (by rw [List.length_map] at hj; exact hj)⟩
      have h3 := h2 y (List.mem_of_getElem? hy)
      refine n_tupB h1 (p := .ref y.1) (by rw [List.getElem?_map, hy]; rfl) ⟨_, rfl, ?_⟩
      refine k_letPl .head ti_rec (by decide) ?_
      refine k_asgTupB h3 rfl rfl ?_
      refine k_asgN ?_
      refine k_store 4 4 en rfl (by kernel_rfl) ?_
      refine k_asgN ?_
      refine k_store 4 5 en rfl (by kernel_rfl) ?_
      refine wio_nil ?_
      have hmiss : fmHit mode k y = false → (x.2.take (j + 1)).find? (fmHit mode k) = none := fun q => by
        rw [List.take_succ, hy, List.find?_append, hno]
        simp [q]
      have hhit : fmHit mode k y = true → fmW mode (k + 1) = fmW mode k ++ [y.2.2] := fun q => by
        rw [fmW_succ, hg]
        unfold fmCh
        rw [find_take hno hy q]
      refine k_If ?_
      refine k_tCompare ?_
      refine k_name 4 2 en rfl rfl (by kernel_rfl) ?_
      refine k_int ?_
      refine k_eq ?_
      refine k_tb ?_
      refine ⟨fun q => ?_, fun q => ?_⟩
      · have hk0 : k = 0 := by simpa using q
        refine k_If ?_
        refine k_tCompare ?_
        refine k_call (f := 197) (fd := f197) en (by kernel_rfl) (by kernel_rfl) (by kernel_rfl) ?_
        refine k_items_cons ?_
        refine k_name 4 0 en rfl rfl (by kernel_rfl) ?_
        refine k_items_nil ?_
        refine s_IFMT (B.le (by decide)) ?_
        refine k_name 4 4 en rfl rfl (by kernel_rfl) ?_
        refine k_eq ?_
        refine k_tb ?_
        refine ⟨fun q2 => ?_, fun q2 => ?_⟩
        · refine k_Expr en (by kernel_rfl) ?_
          refine k_append ?_
          refine k_name 4 1 en rfl rfl (by kernel_rfl) ?_
          refine qm 3 rfl ?_
          refine k_meth1 ?_
          refine k_name 4 5 en rfl rfl (by kernel_rfl) ?_
          refine c_append 3 rfl (by first | decide | omega | (simp; omega) | exact Nat.le_of_ble_eq_true rfl | (simp; done)) ?_
          refine ⟨rfl, ?_⟩
          refine k_Break ?_
          refine nx_brk ?_
          refine nx_brk ?_
          refine hB2 _ (k_nil ?_)
          refine (hN1 _ () trivial ?_).1
          try dsimp only
          rw [hhit (by unfold fmHit; rw [if_pos hk0]; exact q2), List.map_append]
          exact imw 4 3 rfl rfl (Wk.w (.keep (.keep (.forget (.keep (.forget (.forget .refl))))))) (imx 4 1060993 5 rfl (by kernel_rfl))
        · refine k_nil ?_
          refine nx_next ?_
          refine k_nil ?_
          refine nx_next ?_
          refine k_nil ?_
          refine (hN2 _ () (hmiss (by unfold fmHit; rw [if_pos hk0]; exact q2)) ?_).1
          exact imw 4 4 rfl rfl (Wk.w (.keep (.keep (.keep (.keep (.forget (.forget .refl))))))) (imx 5 67903552 5 rfl (by kernel_rfl))
      · have hk0 : k ≠ 0 := by simpa using q
        refine k_If ?_
        refine k_tCompare ?_
        refine k_BinOp ?_
        refine k_name 4 0 en rfl rfl (by kernel_rfl) ?_
        refine k_name 4 4 en rfl rfl (by kernel_rfl) ?_
        refine k_and ?_
        refine k_name 4 4 en rfl rfl (by kernel_rfl) ?_
        refine k_eq ?_
        refine k_tb ?_
        refine ⟨fun q2 => ?_, fun q2 => ?_⟩
        · refine k_Expr en (by kernel_rfl) ?_
          refine k_append ?_
          refine k_name 4 1 en rfl rfl (by kernel_rfl) ?_
          refine qm 3 rfl ?_
          refine k_meth1 ?_
          refine k_name 4 5 en rfl rfl (by kernel_rfl) ?_
          refine c_append 3 rfl (by first | decide | omega | (simp; omega) | exact Nat.le_of_ble_eq_true rfl | (simp; done)) ?_
          refine ⟨rfl, ?_⟩
          refine k_Break ?_
          refine nx_brk ?_
          refine nx_brk ?_
          refine hB2 _ (k_nil ?_)
          refine (hN1 _ () trivial ?_).1
          try dsimp only
          rw [hhit (by unfold fmHit; rw [if_neg hk0]; exact q2), List.map_append]
          exact imw 4 3 rfl rfl (Wk.w (.keep (.keep (.forget (.keep (.forget (.forget .refl))))))) (imx 4 1060993 5 rfl (by kernel_rfl))
        · refine k_nil ?_
          refine nx_next ?_
          refine k_nil ?_
          refine nx_next ?_
          refine k_nil ?_
          refine (hN2 _ () (hmiss (by unfold fmHit; rw [if_neg hk0]; exact q2)) ?_).1
          exact imw 4 4 rfl rfl (Wk.w (.keep (.keep (.keep (.keep (.forget (.forget .refl))))))) (imx 5 67903552 5 rfl (by kernel_rfl))
    · intro _ hno
      refine n_tupEndB h1 ⟨rfl, ?_⟩
      have hno : x.2.find? (fmHit mode k) = none := by
        rw [List.length_map, List.take_length] at hno
        exact hno
      refine k_If ?_
      refine k_tCompare ?_
      refine k_name 3 2 en rfl rfl (by kernel_rfl) ?_
      refine k_int ?_
      refine k_eq ?_
      refine k_tb ?_
      refine ⟨fun q => ?_, fun q => ?_⟩
      · have hk0 : k = 0 := by simpa using q
        refine k_Expr en (by kernel_rfl) ?_
        refine k_append ?_
        refine k_name 3 1 en rfl rfl (by kernel_rfl) ?_
        refine qm 2 rfl ?_
        refine k_meth1 ?_
        refine k_str [63] (by kernel_rfl) ?_
        refine c_append 2 rfl (by first | decide | omega | (simp; omega) | exact Nat.le_of_ble_eq_true rfl | (simp; done)) ?_
        refine ⟨rfl, ?_⟩
        refine k_nil ?_
        refine nx_next ?_
        refine k_nil ?_
        refine nx_next ?_
        refine k_nil ?_
        refine (hN1 _ () trivial ?_).1
        try dsimp only
        rw [fmW_succ, hg, show fmCh mode k x.2 = 63 by unfold fmCh; rw [hno]; exact if_pos hk0, List.map_append]
        exact imw 3 3 rfl rfl (Wk.w (.keep (.keep (.forget .refl)))) (imx 4 794688 4 rfl (by kernel_rfl))
      · have hk0 : k ≠ 0 := by simpa using q
        refine k_Expr en (by kernel_rfl) ?_
        refine k_append ?_
        refine k_name 3 1 en rfl rfl (by kernel_rfl) ?_
        refine qm 2 rfl ?_
        refine k_meth1 ?_
        refine k_str [45] (by kernel_rfl) ?_
        refine c_append 2 rfl (by first | decide | omega | (simp; omega) | exact Nat.le_of_ble_eq_true rfl | (simp; done)) ?_
        refine ⟨rfl, ?_⟩
        refine k_nil ?_
        refine nx_next ?_
        refine k_nil ?_
        refine nx_next ?_
        refine k_nil ?_
        refine (hN1 _ () trivial ?_).1
        try dsimp only
        rw [fmW_succ, hg, show fmCh mode k x.2 = 45 by unfold fmCh; rw [hno]; exact if_neg hk0, List.map_append]
        exact imw 3 3 rfl rfl (Wk.w (.keep (.keep (.forget .refl)))) (imx 4 794688 4 rfl (by kernel_rfl))
  · intro _ _
    refine n_enumEnd (fm_top B.bs) ⟨rfl, ?_⟩
    refine k_nil ?_
    refine nx_next ?_
    refine k_Return ?_
    refine k_sm1 PySem.F.slot_str_join PySem.F.type_str_join ?_
    refine k_str [] (by kernel_rfl) ?_
    refine ⟨[], rfl, ?_⟩
    refine k_name 1 1 en rfl rfl (by kernel_rfl) ?_
    refine c_join (ys := (fmW mode 10).map fun c => [c]) (by rw [List.map_map]; exact .ofL 0 rfl) (by rw [flat_one, fmW_len]; decide) ?_
    rw [flat_one]
    exact hR _ _ _ (.drop (.drop .refl)) h
end
noncomputable def giveSt : Stmt := (fBody st37).getD 1 (.Pass ⟨0, 0, 0, 0⟩)
noncomputable abbrev giveF (qual : Str) (doc pm ctv : Value) (cg c1 c2 : Addr) : FuncData := fnX (Str.ofString "_law_give") qual (fArgs giveSt) (fBody giveSt) (fScope giveSt) [(Str.ofString "text", c1), (Str.ofString "at", c2)] .none .none doc pm none (.ref cg) ctv
theorem cutS_len (t : Word) (p : Nat) : (cutS t (some p) (some (p + 1))).length ≤ 1 := by
  show ((t.drop p).take (p + 1 - p)).length ≤ 1
  rw [List.length_take]; omega
section
variable {G : Gr} {w : World} {l : List Ent} {n : Nat} {KV : Pt → List Ent → Prop} {B : Bx G w n}
theorem s_give {g cg c1 c2 at_ : Addr} {qual : Str} {doc pm ctv : Value} {t : Word} {p : Nat} (B : Bx G w 1) (hp : p ≤ t.length) (hz : t.length ≤ 100000)
    (h : KV (.str (cutS t (some p) (some (p + 1)))) ((g, fnO (giveF qual doc pm ctv cg c1 c2)) :: (cg, coP qual) :: (c1, cel (some (.str t))) :: (c2, cel (some (.ref at_))) :: (at_, ils [.int (p + (cutS t (some p) (some (p + 1))).length : Nat)]) :: l)) :
    WC B ((g, fnO (giveF qual doc pm ctv cg c1 c2)) :: (cg, coP qual) :: (c1, cel (some (.str t))) :: (c2, cel (some (.ref at_))) :: (at_, ils [.int (p : Nat)]) :: l) (.ref g) [.int 1] KV := by
  refine k_enterG (fd := giveF qual doc pm ctv cg c1 c2) (body := fBody giveSt) .head (.tail .head) rfl rfl rfl rfl (by kernel_rfl) (bind1 (x := "size") fun v => by kernel_rfl) fun L env B KF en hR hN => ?_
  have e0 : ([Pt.int (p : Nat)] : List Pt)[(0 : Int).toNat]? = some (.int (p : Nat)) := rfl
  refine k_Assign ?_
  refine k_sslice ?_
  refine k_free 3 en rfl rfl (by kernel_rfl) ?_
  refine k_some ?_
  refine k_Subscript ?_
  refine k_free 4 en rfl rfl (by kernel_rfl) ?_
  refine k_int ?_
  refine k_get (.ofI 5 rfl) (by omega) (by omega) (by assumption) ?_
  refine k_some ?_
  refine k_BinOp ?_
  refine k_Subscript ?_
  refine k_free 4 en rfl rfl (by kernel_rfl) ?_
  refine k_int ?_
  refine k_get (.ofI 5 rfl) (by omega) (by omega) (by assumption) ?_
  refine k_name 0 0 en rfl rfl (by kernel_rfl) ?_
  refine k_add ?_
  refine ⟨t, some p, some (p + 1), rfl, ⟨_, by omega, rfl⟩, ⟨_, by omega, rfl⟩, fun k e => ?_, by omega, ?_⟩
  · cases e
    exact Nat.le_succ _
  have hc := cutS_len t p
  refine k_store 0 1 en rfl (by kernel_rfl) ?_
  refine k_AugSub ?_
  refine k_free 4 en rfl rfl (by kernel_rfl) ?_
  refine k_int ?_
  refine k_get' (.ofI 5 rfl) (by omega) (by omega) (by assumption) ?_
  refine k_bcall (id := "len") en (by kernel_rfl) (by kernel_rfl) (by kernel_rfl) ?_
  refine k_items_cons ?_
  refine k_name 0 1 en rfl rfl (by kernel_rfl) ?_
  refine k_items_nil ?_
  refine c_slen (by first | decide | omega | (simp; omega) | exact Nat.le_of_ble_eq_true rfl | (simp; done)) ?_
  refine k_iadd ?_
  refine k_setI 5 rfl (by omega) (by omega) (by first | decide | omega | (simp; omega) | exact Nat.le_of_ble_eq_true rfl | (simp; done)) ?_
  refine k_Return ?_
  refine k_name 0 1 en rfl rfl (by kernel_rfl) ?_
  refine hR _ _ _ ?_ h
  exact imx 5 84947073 6 rfl (by kernel_rfl)
end
structure LexA where
  X : Addr
  D : Addr
  pb : Addr
  fp : Addr
  dd : Addr
  g : Addr
  cg : Addr
  c1 : Addr
  c2 : Addr
  at_ : Addr
  fdl : FuncData
  qual : Str
  doc : Value
  pm : Value
  ctv : Value
noncomputable def lnAt (t : Word) (p : Nat) : Int := 1 + ((t.take p).count 10 : Nat)
noncomputable abbrev lexR (a : LexA) (t : Word) (p : Nat) (l : List Ent) : List Ent :=
  (a.g, fnO (giveF a.qual a.doc a.pm a.ctv a.cg a.c1 a.c2)) :: (a.cg, coP a.qual) :: (a.c1, cel (some (.str t))) :: (a.c2, cel (some (.ref a.at_))) :: (a.at_, ils [.int (p : Nat)]) :: l
noncomputable abbrev lexB (a : LexA) (t : Word) (p : Nat) (ln : Int) (l : List Ent) : List Ent :=
  (a.X, inst 179 a.D []) :: (a.D, dicP (lexD ln a.fp a.pb)) :: (a.pb, lst []) :: (a.fp, fnD a.fdl a.dd) :: (a.dd, nsP [bd "read" (.ref a.g)]) :: lexR a t p l
noncomputable abbrev lexL (a : LexA) (t : Word) (p : Nat) (l : List Ent) : List Ent := lexB a t p (lnAt t p) l
theorem cutS_one (t : Word) (p : Nat) (c : Nat) (h : t[p]? = some c) : cutS t (some p) (some (p + 1)) = [c] := by
  show (t.drop p).take (p + 1 - p) = [c]
  rw [show p + 1 - p = 1 by omega, List.take_one, List.head?_drop, h]; rfl
theorem cutS_none (t : Word) (p : Nat) (h : t.length ≤ p) : cutS t (some p) (some (p + 1)) = [] := by
  show (t.drop p).take (p + 1 - p) = []
  rw [List.drop_eq_nil_of_le h, List.take_nil]
theorem lnAt_succ (t : Word) (p : Nat) (c : Nat) (h : t[p]? = some c) : lnAt t (p + 1) = lnAt t p + (if c = 10 then 1 else 0) := by
  unfold lnAt
  rw [List.take_add_one, h, List.count_append]
  show (1 : Int) + ((_ + List.count 10 [c] : Nat) : Int) = _
  rw [List.count_singleton]
  by_cases e : c = 10
  · subst e; simp only [beq_self_eq_true, if_true]; omega
  · have : (c == 10) = false := by simpa using e
    simp only [this, e, if_false]; simp
section
variable {G : Gr} {w : World} {l : List Ent} {n : Nat} {KV : Pt → List Ent → Prop} {B : Bx G w n}
theorem s_readch {a : LexA} {t : Word} {p : Nat} (B : Bx G w 3) (hp : p ≤ t.length) (hz : t.length ≤ 100000)
    (h1 : ∀ c, t[p]? = some c → KV (.str [c]) (lexL a t (p + 1) l)) (h2 : p = t.length → KV (.str []) (lexL a t p l)) : WK B (lexL a t p l) (.ref 162) [.ref a.X] KV := by
  refine k_enterK (fd := f162) (body := fBody (cst 8 1)) (by kernel_rfl) (by kernel_rfl) (by kernel_rfl) (by kernel_rfl) (by kernel_rfl) (by kernel_rfl) (by kernel_rfl) (bind1 (x := "self") fun v => by kernel_rfl) fun L env B KF en hR hN => ?_
  unfold lexL lexB lexR at h1 h2 ⊢
  refine k_Assign ?_
  refine k_callRd ?_
  refine k_Attr ?_
  refine k_name 0 0 en rfl rfl (by kernel_rfl) ?_
  refine k_getD 1 1 2 rfl rfl rfl (by kernel_rfl) ?_
  refine ⟨a.fp, a.dd, a.g, a.fdl, _, rfl, Has.of (i := 4) rfl, Has.of (i := 5) rfl, Has.of (i := 6) rfl, ?_⟩
  refine k_int ?_
  refine ⟨Has.of (i := 6) rfl, ?_⟩
  refine WC.im (.keep (.tail (.tail (.tail (.tail (.tail (.tail .head)))))) (.keep (.tail (.tail (.tail (.tail (.tail (.tail .head)))))) (.keep (.tail (.tail (.tail (.tail (.tail (.tail .head)))))) (.keep (.tail (.tail (.tail (.tail (.tail (.tail .head)))))) (.keep (.tail (.tail (.tail (.tail (.tail (.tail .head)))))) .refl))))) (s_give (B.le (by decide)) hp hz ?_)
  by_cases q : p = t.length
  · have hc := cutS_none t p (Nat.le_of_eq q.symm)
    rw [hc]
    show qStore _ _ _ _ _ _ ((a.g, fnO (giveF a.qual a.doc a.pm a.ctv a.cg a.c1 a.c2)) :: (a.cg, coP a.qual) :: (a.c1, cel (some (.str t))) :: (a.c2, cel (some (.ref a.at_))) :: (a.at_, ils [.int (p : Nat)]) :: _)
    refine k_store 5 1 en rfl (by kernel_rfl) ?_
    refine k_If ?_
    refine k_tCompare ?_
    refine k_name 5 1 en rfl rfl (by kernel_rfl) ?_
    refine k_str [10] (by kernel_rfl) ?_
    refine k_seq ?_
    refine k_tb ?_
    refine ⟨fun e => Bool.noConfusion (show false = true from e), fun _ => ?_⟩
    refine k_nil ?_
    refine nx_next ?_
    refine k_Return ?_
    refine k_name 5 1 en rfl rfl (by kernel_rfl) ?_
    refine hR _ _ _ ?_ (h2 q)
    exact imx 10 72910883950723526 11 rfl (by kernel_rfl)
  · obtain ⟨c, hq⟩ : ∃ c, t[p]? = some c := ⟨_, List.getElem?_eq_getElem (by omega)⟩
    have hc := cutS_one t p c hq
    have h1 := h1 c hq
    rw [lnAt_succ t p c hq] at h1
    rw [hc]
    show qStore _ _ _ _ _ _ ((a.g, fnO (giveF a.qual a.doc a.pm a.ctv a.cg a.c1 a.c2)) :: (a.cg, coP a.qual) :: (a.c1, cel (some (.str t))) :: (a.c2, cel (some (.ref a.at_))) :: (a.at_, ils [.int (p + 1 : Nat)]) :: _)
    refine k_store 5 1 en rfl (by kernel_rfl) ?_
    refine k_If ?_
    refine k_tCompare ?_
    refine k_name 5 1 en rfl rfl (by kernel_rfl) ?_
    refine k_str [10] (by kernel_rfl) ?_
    refine k_seq ?_
    refine k_tb ?_
    refine ⟨fun e => ?_, fun e => ?_⟩
    · have e2 : c = 10 := by simpa using e
      rw [if_pos e2] at h1
      refine k_AugAttr ?_
      refine k_name 5 0 en rfl rfl (by kernel_rfl) ?_
      refine k_getD 6 0 7 rfl rfl rfl (by kernel_rfl) ?_
      refine k_int ?_
      refine k_iadd ?_
      refine k_setD 6 0 7 (Nat.le_of_ble_eq_true rfl) rfl rfl (by kernel_rfl) ?_
      refine k_nil ?_
      refine nx_next ?_
      refine k_Return ?_
      refine k_name 5 1 en rfl rfl (by kernel_rfl) ?_
      refine hR _ _ _ ?_ h1
      exact imx 10 72910883950723526 11 rfl (by kernel_rfl)
    · have e2 : c ≠ 10 := by simpa using e
      rw [if_neg e2, Int.add_zero] at h1
      refine k_nil ?_
      refine nx_next ?_
      refine k_Return ?_
      refine k_name 5 1 en rfl rfl (by kernel_rfl) ?_
      refine hR _ _ _ ?_ h1
      exact imx 10 72910883950723526 11 rfl (by kernel_rfl)
end
inductive Wr : Word → Word → Prop
  | nil : Wr [] []
  | ch {c e w} : ([10, 9, 13, 32, 34, 92].contains c) = false → Wr e w → Wr (c :: e) (c :: w)
  | esc {c e w} : Wr e w → Wr (92 :: c :: e) (c :: w)
section
variable {G : Gr} {w : World} {l : List Ent} {n : Nat} {KV : Pt → List Ent → Prop} {KN : Option Pt → List Ent → Prop}
theorem n_read {a : LexA} {t : Word} {p : Nat} {fi mo : Addr} (B : Bx G w (n + 4)) (hp : p ≤ t.length) (hz : t.length ≤ 100000)
    (h1 : ∀ c, t[p]? = some c → KN (some (.str [c])) ((fi, ciP mo) :: (mo, bmP 162 a.X) :: lexL a t (p + 1) l)) (h2 : p = t.length → KN none ((mo, bmP 162 a.X) :: lexL a t p l)) :
    WN B ((fi, ciP mo) :: (mo, bmP 162 a.X) :: lexL a t p l) (pyNext (.ref fi)) KN := by
  refine n_callIt (fd := f162) .head (by kernel_rfl) ?_
  refine WK.im (l' := lexL a t p ((fi, ciP mo) :: (mo, bmP 162 a.X) :: l)) ?_ (s_readch (B.in1.le (by omega)) hp hz (fun c hc => ⟨[c], (mo, bmP 162 a.X) :: lexL a t (p + 1) l, rfl, ?_, .head, fun _ => h1 c hc, fun e => nomatch e⟩) fun q => ⟨[], (mo, bmP 162 a.X) :: lexL a t p l, rfl, ?_, .head, fun e => absurd rfl e, fun _ => h2 q⟩)
  · unfold lexL lexB lexR
    exact imx 12 73987989568002212034 12 rfl (by kernel_rfl)
  · unfold lexL lexB lexR
    exact imx 12 673433970598190777034 12 rfl (by kernel_rfl)
  · unfold lexL lexB lexR
    exact imx 12 673433970598190777034 12 rfl (by kernel_rfl)
noncomputable abbrev tkL (a : LexA) (t : Word) (p : Nat) (L fi mo : Addr) (w1 : Word) (ch : Option Pt) (l : List Ent) : List Ent :=
  (fi, ciP mo) :: (mo, bmP 162 a.X) :: lexL a t p ((L, nsP [bd "self" (.ref a.X), bd "token" (.str w1), bd "fiter" (.ref fi), ("ch", ch)]) :: l)
theorem s_tokgo {a : LexA} {t : Word} {p : Nat} (B : Bx G w (n + 1)) 
    (h : ∀ L env (B : Bx G w n) (KF : Fl → List Ent → Prop) fi mo, En env L f169.scope [] → (∀ p l l', Im l l' → KV p l' → KF (.ret p) l) → WF B (tkL a t p L fi mo [] none l) (execs ((fBody (cst 8 2)).drop 3) env) KF) :
    WC B (lexL a t p l) (.ref 169) [.ref a.X] KV := by
  refine k_enter (fd := f169) (body := fBody (cst 8 2)) (by kernel_rfl) (by kernel_rfl) (by kernel_rfl) (by kernel_rfl) (by kernel_rfl) (by kernel_rfl) (by kernel_rfl) (bind1 (x := "self") fun v => by kernel_rfl) fun L env B KF en hR hN => ?_
  unfold lexL lexB lexR
  refine k_If ?_
  refine k_tVal ?_
  refine k_Attr ?_
  refine k_name 0 0 en rfl rfl (by kernel_rfl) ?_
  refine k_getD 1 3 2 rfl rfl rfl (by kernel_rfl) ?_
  refine k_tlist 3 rfl (by first | decide | omega | (simp; omega) | exact Nat.le_of_ble_eq_true rfl | (simp; done)) ?_
  refine ⟨fun e => Bool.noConfusion (show false = true from e), fun _ => ?_⟩
  refine k_nil ?_
  refine nx_next ?_
  refine k_Assign ?_
  refine k_str [] (by kernel_rfl) ?_
  refine k_store 0 1 en rfl (by kernel_rfl) ?_
  refine k_Assign ?_
  refine k_bcall (id := "iter") en (by kernel_rfl) (by kernel_rfl) (by kernel_rfl) ?_
  refine k_items_cons ?_
  refine k_Attr ?_
  refine k_name 0 0 en rfl rfl (by kernel_rfl) ?_
  refine k_bound (f := 162) 1 2 rfl rfl (by kernel_rfl) (by kernel_rfl) fun mo => ?_
  refine k_items_cons ?_
  refine k_str [] (by kernel_rfl) ?_
  refine k_items_nil ?_
  refine c_iterC (Has.of (i := 0) rfl) fun fi => ?_
  refine k_store 2 2 en rfl (by kernel_rfl) ?_
  refine WF.im ?_ (h L env B KF fi mo en hR)
  unfold tkL lexL lexB lexR
  exact imw 2 12 rfl rfl (Wk.w (.keep (.keep (.keep (.new .refl))))) (imx 13 10343041530759845261376 13 rfl (by kernel_rfl))
theorem s_tokend {a : LexA} {t : Word} (B : Bx G w 6) (hz : t.length ≤ 100000)
    (h : KV (.str []) (lexL a t t.length l)) : WC B (lexL a t t.length l) (.ref 169) [.ref a.X] KV := by
  refine s_tokgo B fun L env B KF fi mo en hR => k_forG ?_
  unfold tkL lexL lexB lexR
  refine k_name 12 2 en rfl rfl (by kernel_rfl) ?_
  refine k_iterC (Has.of (i := 0) rfl) ?_
  refine ⟨fi, Unit, 0, fun _ _ => True, fun _ _ => tkL a t t.length L fi mo [] none l, (), rfl, trivial, .refl, fun k x KF hk => absurd hk (Nat.not_lt_zero _), fun x _ => ?_⟩
  try dsimp only
  refine n_read (a := a) (n := 1) B (Nat.le_refl _) hz (fun c hc => ?_) fun _ => ⟨rfl, ?_⟩
  · rw [List.getElem?_eq_none (Nat.le_refl _)] at hc
    cases hc
  · unfold lexL lexB lexR at h ⊢
    refine k_nil ?_
    refine nx_next ?_
    refine k_Return ?_
    refine k_name 11 1 en rfl rfl (by kernel_rfl) ?_
    refine hR _ _ _ ?_ h
    exact imx 10 182712931821039745 12 rfl (by kernel_rfl)
theorem drop_cons {t : Word} {p c : Nat} {r : Word} (h : t.drop p = c :: r) : t[p]? = some c ∧ p < t.length ∧ t.drop (p + 1) = r := by
  have h1 : t[p]? = some c := by rw [← List.head?_drop, h]; rfl
  refine ⟨h1, (List.getElem?_eq_some_iff.mp h1).1, ?_⟩
  rw [← List.drop_drop, h]; rfl
noncomputable def elseOf : Stmt → List Stmt
  | .If _ _ b _ => b
  | .For _ _ _ b _ => b
  | _ => []
noncomputable def tokIf : Stmt := (bodyOf ((fBody (cst 8 2)).getD 3 (.Pass ⟨0, 0, 0, 0⟩))).getD 1 (.Pass ⟨0, 0, 0, 0⟩)
noncomputable def tokPl : List Stmt := (elseOf tokIf).drop 2
noncomputable def tokQu : List Stmt := bodyOf tokIf
theorem tok_plain {a : LexA} {t : Word} {p sep : Nat} {L : Addr} {env : Env} {fi mo : Addr} {w1 e w2 rest : Word} {KF : Fl → List Ent → Prop} {ch : Option Pt} (B : Bx G w (n + 4)) (en : En env L f169.scope []) (hz : t.length ≤ 100000) (hw : w1.length + w2.length ≤ 1000)
    (hWr : Wr e w2) (hsep : ([10, 9, 13, 32].contains sep) = true) (hd : t.drop p = e ++ sep :: rest)
    (hR : ∀ ch' l', Im l' (tkL a t (p + e.length + 1) L fi mo (w1 ++ w2) ch' l) → KF (.ret (.str (w1 ++ w2))) l') : WF B (tkL a t p L fi mo w1 ch l) (execs tokPl env) KF := by
  refine k_forG ?_
  unfold tkL lexL lexB lexR
  refine k_name 12 2 en rfl rfl (by kernel_rfl) ?_
  refine k_iterC (Has.of (i := 0) rfl) ?_
  refine ⟨fi, Nat × Word × Word × Word × Option Pt, e.length + 1, fun k x => k + x.2.1.length ≤ e.length ∧ Wr x.2.1 x.2.2.2.1 ∧ t.drop x.1 = x.2.1 ++ sep :: rest ∧ x.2.2.1 ++ x.2.2.2.1 = w1 ++ w2 ∧ x.1 + x.2.1.length = p + e.length,
    fun _ x => tkL a t x.1 L fi mo x.2.2.1 x.2.2.2.2 l, (p, e, w1, w2, ch), rfl, ⟨by simp, hWr, hd, rfl, rfl⟩, .refl, fun k x KF1 hk hx hN _ hRt => ?_, fun x hx => absurd hx.1 (by omega)⟩
  obtain ⟨p, e', v1, v2, ch⟩ := x
  obtain ⟨hx1, hx2, hx3, hx4, hx5⟩ := hx
  try dsimp only at hx1 hx2 hx3 hx4 hx5 ⊢
  have hlt : p < t.length := by
    cases e' with
    | nil => exact (drop_cons hx3).2.1
    | cons c r => exact (drop_cons hx3).2.1
  have hl1 : v1.length ≤ 1000 := by
    have := congrArg List.length hx4
    simp only [List.length_append] at this
    omega
  refine n_read B (Nat.le_of_lt hlt) hz (fun c hc => ⟨_, rfl, k_letN ?_⟩) fun q => absurd q (Nat.ne_of_lt hlt)
  unfold lexL lexB lexR
  refine k_asgN ?_
  refine k_store 12 3 en rfl (by kernel_rfl) ?_
  refine k_If ?_
  refine k_tCompare ?_
  refine k_name 12 3 en rfl rfl (by kernel_rfl) ?_
  refine k_Attr ?_
  refine k_name 12 0 en rfl rfl (by kernel_rfl) ?_
  refine k_getD 2 2 3 rfl rfl rfl (by kernel_rfl) ?_
  refine k_sin ?_
  refine k_tb ?_
  cases hx2 with
  | nil =>
    rw [List.nil_append] at hx3
    obtain ⟨hc1, _, hc3⟩ := drop_cons hx3
    rw [hc] at hc1; cases hc1
    refine ⟨fun q => ?_, fun q => absurd (by simpa using hsep) (of_decide_eq_false q)⟩
    refine k_Return ?_
    refine k_name 12 1 en rfl rfl (by kernel_rfl) ?_
    refine nx_ret ?_
    rw [List.append_nil] at hx4
    rw [hx4]
    refine hRt _ _ (hR (some (.str [sep])) _ ?_)
    rw [← hx5]
    unfold tkL lexL lexB lexR
    exact imx 13 57491748161315509379136 13 rfl (by kernel_rfl)
  | ch hcn hW =>
    rw [List.cons_append] at hx3
    obtain ⟨hc1, _, hc3⟩ := drop_cons hx3
    rw [hc] at hc1; cases hc1
    simp only [List.contains_eq_mem, List.mem_cons, List.not_mem_nil, or_false, decide_eq_false_iff_not, not_or] at hcn
    refine ⟨fun q => absurd (of_decide_eq_true q) (by simp only [List.mem_cons, List.not_mem_nil, or_false, not_or]; exact ⟨hcn.1, hcn.2.1, hcn.2.2.1, hcn.2.2.2.1⟩), fun q => ?_⟩
    refine k_If ?_
    refine k_tCompare ?_
    refine k_name 12 3 en rfl rfl (by kernel_rfl) ?_
    refine k_str [92] (by kernel_rfl) ?_
    refine k_seq ?_
    refine k_tb ?_
    refine ⟨fun q => absurd (by simpa using q) hcn.2.2.2.2.2, fun q => ?_⟩
    refine k_nil ?_
    refine nx_next ?_
    refine k_nil ?_
    refine nx_next ?_
    refine k_Aug ?_
    refine k_load 12 1 en rfl rfl (by kernel_rfl) ?_
    refine k_name 12 3 en rfl rfl (by kernel_rfl) ?_
    refine k_siadd (by first | decide | omega | (simp; omega) | exact Nat.le_of_ble_eq_true rfl | (simp; done)) ?_
    refine k_store 12 1 en rfl (by kernel_rfl) ?_
    refine k_nil ?_
    rw [List.length_cons] at hx1 hx5
    refine (hN _ (p + 1, _, v1 ++ [c], _, some (.str [c])) ⟨by (try dsimp only); omega, hW, hc3, by rw [List.append_assoc]; exact hx4, by (try dsimp only); omega⟩ ?_).1
    unfold tkL lexL lexB lexR
    exact imx 13 57491748161315509379136 13 rfl (by kernel_rfl)
  | @esc c3 _ _ hW =>
    rw [List.cons_append] at hx3
    obtain ⟨hc1, _, hc3⟩ := drop_cons hx3
    rw [hc] at hc1; cases hc1
    rw [List.cons_append] at hc3
    obtain ⟨hc4, hc5, hc6⟩ := drop_cons hc3
    refine ⟨fun q => absurd (of_decide_eq_true q) (by decide), fun q => ?_⟩
    refine k_If ?_
    refine k_tCompare ?_
    refine k_name 12 3 en rfl rfl (by kernel_rfl) ?_
    refine k_str [92] (by kernel_rfl) ?_
    refine k_seq ?_
    refine k_tb ?_
    refine ⟨fun _ => ?_, fun e => Bool.noConfusion (show true = false from e)⟩
    refine k_Assign ?_
    refine k_imeth0 (f := 162) (fd := f162) ?_
    refine k_name 12 0 en rfl rfl (by kernel_rfl) ?_
    refine qim 2 3 rfl rfl (by kernel_rfl) (by kernel_rfl) (by kernel_rfl) ?_
    refine WC.im (l' := lexL a t (p + 1) ((fi, ciP mo) :: (mo, bmP 162 a.X) :: (L, nsP [bd "self" (.ref a.X), bd "token" (.str v1), bd "fiter" (.ref fi), bd "ch" (.str [92])]) :: l)) ?_
      (s_readch (B.le (by omega)) (Nat.le_of_lt hc5) hz (fun c2 hc2 => ?_) fun q => absurd q (Nat.ne_of_lt hc5)).wc
    · unfold lexL lexB lexR
      exact imx 13 56742385784003744776386 13 rfl (by kernel_rfl)
    rw [hc4] at hc2; cases hc2
    unfold lexL lexB lexR
    refine k_store 12 3 en rfl (by kernel_rfl) ?_
    refine k_nil ?_
    refine nx_next ?_
    refine k_nil ?_
    refine nx_next ?_
    refine k_Aug ?_
    refine k_load 12 1 en rfl rfl (by kernel_rfl) ?_
    refine k_name 12 3 en rfl rfl (by kernel_rfl) ?_
    refine k_siadd (by first | decide | omega | (simp; omega) | exact Nat.le_of_ble_eq_true rfl | (simp; done)) ?_
    refine k_store 12 1 en rfl (by kernel_rfl) ?_
    refine k_nil ?_
    rw [List.length_cons, List.length_cons] at hx1 hx5
    refine (hN _ (p + 1 + 1, _, v1 ++ [c3], _, some (.str [c3])) ⟨by (try dsimp only); omega, hW, hc6, by rw [List.append_assoc]; exact hx4, by (try dsimp only); omega⟩ ?_).1
    unfold tkL lexL lexB lexR
    exact imx 13 57341831765033933341386 13 rfl (by kernel_rfl)
end
section
variable {G : Gr} {w : World} {l : List Ent} {n : Nat} {KV : Pt → List Ent → Prop} {KN : Option Pt → List Ent → Prop}
theorem tok_quoted {a : LexA} {t : Word} {p : Nat} {L : Addr} {env : Env} {fi mo : Addr} {w1 e w2 rest : Word} {KF : Fl → List Ent → Prop} {ch : Option Pt} (B : Bx G w (n + 4)) (en : En env L f169.scope []) (hz : t.length ≤ 100000) (hw : w1.length + w2.length ≤ 1000)
    (hWr : Wr e w2) (hd : t.drop p = e ++ 34 :: rest)
    (hR : ∀ ch' l', Im l' (tkL a t (p + e.length + 1) L fi mo (w1 ++ w2) ch' l) → KF (.ret (.str (w1 ++ w2))) l') : WF B (tkL a t p L fi mo w1 ch l) (execs tokQu env) KF := by
  refine k_forG ?_
  unfold tkL lexL lexB lexR
  refine k_name 12 2 en rfl rfl (by kernel_rfl) ?_
  refine k_iterC (Has.of (i := 0) rfl) ?_
  refine ⟨fi, Nat × Word × Word × Word × Option Pt, e.length + 1, fun k x => k + x.2.1.length ≤ e.length ∧ Wr x.2.1 x.2.2.2.1 ∧ t.drop x.1 = x.2.1 ++ 34 :: rest ∧ x.2.2.1 ++ x.2.2.2.1 = w1 ++ w2 ∧ x.1 + x.2.1.length = p + e.length,
    fun _ x => tkL a t x.1 L fi mo x.2.2.1 x.2.2.2.2 l, (p, e, w1, w2, ch), rfl, ⟨by simp, hWr, hd, rfl, rfl⟩, .refl, fun k x KF1 hk hx hN _ hRt => ?_, fun x hx => absurd hx.1 (by omega)⟩
  obtain ⟨p, e', v1, v2, ch⟩ := x
  obtain ⟨hx1, hx2, hx3, hx4, hx5⟩ := hx
  try dsimp only at hx1 hx2 hx3 hx4 hx5 ⊢
  have hlt : p < t.length := by
    cases e' with
    | nil => exact (drop_cons hx3).2.1
    | cons c r => exact (drop_cons hx3).2.1
  have hl1 : v1.length ≤ 1000 := by
    have := congrArg List.length hx4
    simp only [List.length_append] at this
    omega
  refine n_read B (Nat.le_of_lt hlt) hz (fun c hc => ⟨_, rfl, k_letN ?_⟩) fun q => absurd q (Nat.ne_of_lt hlt)
  unfold lexL lexB lexR
  refine k_asgN ?_
  refine k_store 12 3 en rfl (by kernel_rfl) ?_
  refine k_If ?_
  refine k_tCompare ?_
  refine k_name 12 3 en rfl rfl (by kernel_rfl) ?_
  refine k_str [34] (by kernel_rfl) ?_
  refine k_seq ?_
  refine k_tb ?_
  cases hx2 with
  | nil =>
    rw [List.nil_append] at hx3
    obtain ⟨hc1, _, hc3⟩ := drop_cons hx3
    rw [hc] at hc1; cases hc1
    refine ⟨fun q => ?_, fun q => absurd q (by decide)⟩
    refine k_Return ?_
    refine k_name 12 1 en rfl rfl (by kernel_rfl) ?_
    refine nx_ret ?_
    rw [List.append_nil] at hx4
    rw [hx4]
    refine hRt _ _ (hR (some (.str [34])) _ ?_)
    rw [← hx5]
    unfold tkL lexL lexB lexR
    exact imx 13 57491748161315509379136 13 rfl (by kernel_rfl)
  | ch hcn hW =>
    rw [List.cons_append] at hx3
    obtain ⟨hc1, _, hc3⟩ := drop_cons hx3
    rw [hc] at hc1; cases hc1
    simp only [List.contains_eq_mem, List.mem_cons, List.not_mem_nil, or_false, decide_eq_false_iff_not, not_or] at hcn
    refine ⟨fun q => absurd (by simpa using q) hcn.2.2.2.2.1, fun q => ?_⟩
    refine k_If ?_
    refine k_tCompare ?_
    refine k_name 12 3 en rfl rfl (by kernel_rfl) ?_
    refine k_str [92] (by kernel_rfl) ?_
    refine k_seq ?_
    refine k_tb ?_
    refine ⟨fun q => absurd (by simpa using q) hcn.2.2.2.2.2, fun q => ?_⟩
    refine k_nil ?_
    refine nx_next ?_
    refine k_nil ?_
    refine nx_next ?_
    refine k_Aug ?_
    refine k_load 12 1 en rfl rfl (by kernel_rfl) ?_
    refine k_name 12 3 en rfl rfl (by kernel_rfl) ?_
    refine k_siadd (by first | decide | omega | (simp; omega) | exact Nat.le_of_ble_eq_true rfl | (simp; done)) ?_
    refine k_store 12 1 en rfl (by kernel_rfl) ?_
    refine k_nil ?_
    rw [List.length_cons] at hx1 hx5
    refine (hN _ (p + 1, _, v1 ++ [c], _, some (.str [c])) ⟨by (try dsimp only); omega, hW, hc3, by rw [List.append_assoc]; exact hx4, by (try dsimp only); omega⟩ ?_).1
    unfold tkL lexL lexB lexR
    exact imx 13 57491748161315509379136 13 rfl (by kernel_rfl)
  | @esc c3 _ _ hW =>
    rw [List.cons_append] at hx3
    obtain ⟨hc1, _, hc3⟩ := drop_cons hx3
    rw [hc] at hc1; cases hc1
    rw [List.cons_append] at hc3
    obtain ⟨hc4, hc5, hc6⟩ := drop_cons hc3
    refine ⟨fun q => absurd q (by decide), fun q => ?_⟩
    refine k_If ?_
    refine k_tCompare ?_
    refine k_name 12 3 en rfl rfl (by kernel_rfl) ?_
    refine k_str [92] (by kernel_rfl) ?_
    refine k_seq ?_
    refine k_tb ?_
    refine ⟨fun _ => ?_, fun e => Bool.noConfusion (show true = false from e)⟩
    refine k_Assign ?_
    refine k_imeth0 (f := 162) (fd := f162) ?_
    refine k_name 12 0 en rfl rfl (by kernel_rfl) ?_
    refine qim 2 3 rfl rfl (by kernel_rfl) (by kernel_rfl) (by kernel_rfl) ?_
    refine WC.im (l' := lexL a t (p + 1) ((fi, ciP mo) :: (mo, bmP 162 a.X) :: (L, nsP [bd "self" (.ref a.X), bd "token" (.str v1), bd "fiter" (.ref fi), bd "ch" (.str [92])]) :: l)) ?_
      (s_readch (B.le (by omega)) (Nat.le_of_lt hc5) hz (fun c2 hc2 => ?_) fun q => absurd q (Nat.ne_of_lt hc5)).wc
    · unfold lexL lexB lexR
      exact imx 13 56742385784003744776386 13 rfl (by kernel_rfl)
    rw [hc4] at hc2; cases hc2
    unfold lexL lexB lexR
    refine k_store 12 3 en rfl (by kernel_rfl) ?_
    refine k_nil ?_
    refine nx_next ?_
    refine k_nil ?_
    refine nx_next ?_
    refine k_Aug ?_
    refine k_load 12 1 en rfl rfl (by kernel_rfl) ?_
    refine k_name 12 3 en rfl rfl (by kernel_rfl) ?_
    refine k_siadd (by first | decide | omega | (simp; omega) | exact Nat.le_of_ble_eq_true rfl | (simp; done)) ?_
    refine k_store 12 1 en rfl (by kernel_rfl) ?_
    refine k_nil ?_
    rw [List.length_cons, List.length_cons] at hx1 hx5
    refine (hN _ (p + 1 + 1, _, v1 ++ [c3], _, some (.str [c3])) ⟨by (try dsimp only); omega, hW, hc6, by rw [List.append_assoc]; exact hx4, by (try dsimp only); omega⟩ ?_).1
    unfold tkL lexL lexB lexR
    exact imx 13 57341831765033933341386 13 rfl (by kernel_rfl)
theorem s_tokplain {a : LexA} {t : Word} {p sep : Nat} {e v rest : Word} (B : Bx G w 6) (hz : t.length ≤ 100000) (hw : v.length ≤ 1000) (hv : v ≠ [])
    (hWr : Wr e v) (hsep : ([10, 9, 13, 32].contains sep) = true) (hd : t.drop p = e ++ sep :: rest)
    (h : KV (.str v) (lexL a t (p + e.length + 1) l)) : WC B (lexL a t p l) (.ref 169) [.ref a.X] KV := by
  refine s_tokgo B fun L env B KF fi mo en hR => k_forG ?_
  unfold tkL lexL lexB lexR
  refine k_name 12 2 en rfl rfl (by kernel_rfl) ?_
  refine k_iterC (Has.of (i := 0) rfl) ?_
  refine ⟨fi, Unit, 1, fun k _ => k = 0, fun _ _ => tkL a t p L fi mo [] none l, (), rfl, rfl, .refl, fun k x KF1 hk hx hN _ hRt => ?_, fun x hx => Nat.noConfusion (show (1 : Nat) = 0 from hx)⟩
  try dsimp only
  have hlt : p < t.length := by
    cases e with
    | nil => exact (drop_cons hd).2.1
    | cons c r => exact (drop_cons hd).2.1
  refine n_read (n := 1) B (Nat.le_of_lt hlt) hz (fun c hc => ⟨_, rfl, k_letN ?_⟩) fun q => absurd q (Nat.ne_of_lt hlt)
  unfold lexL lexB lexR
  refine k_asgN ?_
  refine k_store 12 3 en rfl (by kernel_rfl) ?_
  refine k_If ?_
  refine k_tCompare ?_
  refine k_name 12 3 en rfl rfl (by kernel_rfl) ?_
  refine k_Attr ?_
  refine k_name 12 0 en rfl rfl (by kernel_rfl) ?_
  refine k_getD 2 2 3 rfl rfl rfl (by kernel_rfl) ?_
  refine k_sin ?_
  refine k_tb ?_
  cases hWr with
  | nil => exact absurd rfl hv
  | @ch c3 e v hcn hW =>
    rw [List.cons_append] at hd
    obtain ⟨hc1, _, hc3⟩ := drop_cons hd
    rw [hc] at hc1; cases hc1
    simp only [List.contains_eq_mem, List.mem_cons, List.not_mem_nil, or_false, decide_eq_false_iff_not, not_or] at hcn
    refine ⟨fun q => absurd (of_decide_eq_true q) (by simp only [List.mem_cons, List.not_mem_nil, or_false, not_or]; exact ⟨hcn.1, hcn.2.1, hcn.2.2.1, hcn.2.2.2.1⟩), fun q => ?_⟩
    refine k_nil ?_
    refine nx_next ?_
    refine k_If ?_
    refine k_tCompare ?_
    refine k_name 12 3 en rfl rfl (by kernel_rfl) ?_
    refine k_str [34] (by kernel_rfl) ?_
    refine k_seq ?_
    refine k_tb ?_
    refine ⟨fun q => absurd (by simpa using q) hcn.2.2.2.2.1, fun q => ?_⟩
    refine k_If ?_
    refine k_tCompare ?_
    refine k_name 12 3 en rfl rfl (by kernel_rfl) ?_
    refine k_str [92] (by kernel_rfl) ?_
    refine k_seq ?_
    refine k_tb ?_
    refine ⟨fun q => absurd (by simpa using q) hcn.2.2.2.2.2, fun q => ?_⟩
    refine k_nil ?_
    refine nx_next ?_
    refine k_Aug ?_
    refine k_load 12 1 en rfl rfl (by kernel_rfl) ?_
    refine k_name 12 3 en rfl rfl (by kernel_rfl) ?_
    refine k_siadd (by first | decide | omega | (simp; omega) | exact Nat.le_of_ble_eq_true rfl | (simp; done)) ?_
    refine k_store 12 1 en rfl (by kernel_rfl) ?_
    rw [List.length_cons] at hw h
    refine WF.im ?_ (tok_plain (w1 := [c]) (w2 := v) (a := a) (fi := fi) (mo := mo) (L := L) (ch := some (.str [c])) (n := 1) (l := l) B en hz (by rw [List.length_cons, List.length_nil]; omega) hW hsep hc3 fun ch' l' hl' => hRt _ _ (hR _ _ (lexL a t (p + (e.length + 1) + 1) l) ?_ h))
    · unfold tkL lexL lexB lexR
      exact imx 13 57491748161315509379136 13 rfl (by kernel_rfl)
    · rw [show p + 1 + e.length + 1 = p + (e.length + 1) + 1 by omega] at hl'
      refine Im.trans hl' ?_
      unfold tkL lexL lexB lexR
      exact imx 10 201013273164005570 13 rfl (by kernel_rfl)
  | @esc c3 e v hW =>
    rw [List.cons_append] at hd
    obtain ⟨hc1, _, hc3⟩ := drop_cons hd
    rw [hc] at hc1; cases hc1
    rw [List.cons_append] at hc3
    obtain ⟨hc4, hc5, hc6⟩ := drop_cons hc3
    refine ⟨fun q => absurd (of_decide_eq_true q) (by decide), fun q => ?_⟩
    refine k_nil ?_
    refine nx_next ?_
    refine k_If ?_
    refine k_tCompare ?_
    refine k_name 12 3 en rfl rfl (by kernel_rfl) ?_
    refine k_str [34] (by kernel_rfl) ?_
    refine k_seq ?_
    refine k_tb ?_
    refine ⟨fun e => Bool.noConfusion (show false = true from e), fun _ => ?_⟩
    refine k_If ?_
    refine k_tCompare ?_
    refine k_name 12 3 en rfl rfl (by kernel_rfl) ?_
    refine k_str [92] (by kernel_rfl) ?_
    refine k_seq ?_
    refine k_tb ?_
    refine ⟨fun _ => ?_, fun e => Bool.noConfusion (show true = false from e)⟩
    refine k_Assign ?_
    refine k_imeth0 (f := 162) (fd := f162) ?_
    refine k_name 12 0 en rfl rfl (by kernel_rfl) ?_
    refine qim 2 3 rfl rfl (by kernel_rfl) (by kernel_rfl) (by kernel_rfl) ?_
    refine WC.im (l' := lexL a t (p + 1) ((fi, ciP mo) :: (mo, bmP 162 a.X) :: (L, nsP [bd "self" (.ref a.X), bd "token" (.str []), bd "fiter" (.ref fi), bd "ch" (.str [92])]) :: l)) ?_
      (s_readch (B.le (by decide)) (Nat.le_of_lt hc5) hz (fun c2 hc2 => ?_) fun q => absurd q (Nat.ne_of_lt hc5)).wc
    · unfold lexL lexB lexR
      exact imx 13 56742385784003744776386 13 rfl (by kernel_rfl)
    rw [hc4] at hc2; cases hc2
    unfold lexL lexB lexR
    refine k_store 12 3 en rfl (by kernel_rfl) ?_
    refine k_nil ?_
    refine nx_next ?_
    refine k_Aug ?_
    refine k_load 12 1 en rfl rfl (by kernel_rfl) ?_
    refine k_name 12 3 en rfl rfl (by kernel_rfl) ?_
    refine k_siadd (by first | decide | omega | (simp; omega) | exact Nat.le_of_ble_eq_true rfl | (simp; done)) ?_
    refine k_store 12 1 en rfl (by kernel_rfl) ?_
    rw [List.length_cons] at hw
    rw [List.length_cons, List.length_cons] at h
    refine WF.im ?_ (tok_plain (w1 := [c3]) (w2 := v) (a := a) (fi := fi) (mo := mo) (L := L) (ch := some (.str [c3])) (n := 1) (l := l) B en hz (by rw [List.length_cons, List.length_nil]; omega) hW hsep hc6 fun ch' l' hl' => hRt _ _ (hR _ _ (lexL a t (p + (e.length + 1 + 1) + 1) l) ?_ h))
    · unfold tkL lexL lexB lexR
      exact imx 13 57341831765033933341386 13 rfl (by kernel_rfl)
    · rw [show p + 1 + 1 + e.length + 1 = p + (e.length + 1 + 1) + 1 by omega] at hl'
      refine Im.trans hl' ?_
      unfold tkL lexL lexB lexR
      exact imx 10 201013273164005570 13 rfl (by kernel_rfl)
theorem s_tokquoted {a : LexA} {t : Word} {p : Nat} {e v rest : Word} (B : Bx G w 6) (hz : t.length ≤ 100000) (hw : v.length ≤ 1000)
    (hWr : Wr e v) (hd : t.drop p = 34 :: (e ++ 34 :: rest))
    (h : KV (.str v) (lexL a t (p + e.length + 2) l)) : WC B (lexL a t p l) (.ref 169) [.ref a.X] KV := by
  refine s_tokgo B fun L env B KF fi mo en hR => k_forG ?_
  unfold tkL lexL lexB lexR
  refine k_name 12 2 en rfl rfl (by kernel_rfl) ?_
  refine k_iterC (Has.of (i := 0) rfl) ?_
  refine ⟨fi, Unit, 1, fun k _ => k = 0, fun _ _ => tkL a t p L fi mo [] none l, (), rfl, rfl, .refl, fun k x KF1 hk hx hN _ hRt => ?_, fun x hx => Nat.noConfusion (show (1 : Nat) = 0 from hx)⟩
  try dsimp only
  obtain ⟨hc1, hlt, hc3⟩ := drop_cons hd
  refine n_read (n := 1) B (Nat.le_of_lt hlt) hz (fun c hc => ⟨_, rfl, k_letN ?_⟩) fun q => absurd q (Nat.ne_of_lt hlt)
  unfold lexL lexB lexR
  refine k_asgN ?_
  refine k_store 12 3 en rfl (by kernel_rfl) ?_
  refine k_If ?_
  refine k_tCompare ?_
  refine k_name 12 3 en rfl rfl (by kernel_rfl) ?_
  refine k_Attr ?_
  refine k_name 12 0 en rfl rfl (by kernel_rfl) ?_
  refine k_getD 2 2 3 rfl rfl rfl (by kernel_rfl) ?_
  refine k_sin ?_
  refine k_tb ?_
  rw [hc] at hc1; cases hc1
  refine ⟨fun q => absurd (of_decide_eq_true q) (by decide), fun q => ?_⟩
  refine k_nil ?_
  refine nx_next ?_
  refine k_If ?_
  refine k_tCompare ?_
  refine k_name 12 3 en rfl rfl (by kernel_rfl) ?_
  refine k_str [34] (by kernel_rfl) ?_
  refine k_seq ?_
  refine k_tb ?_
  refine ⟨fun _ => ?_, fun e => Bool.noConfusion (show true = false from e)⟩
  refine WF.im ?_ (tok_quoted (w1 := []) (w2 := v) (a := a) (fi := fi) (mo := mo) (L := L) (ch := some (.str [34])) (n := 1) (l := l) B en hz (by rw [List.length_nil]; omega) hWr hc3 fun ch' l' hl' => hRt _ _ (hR _ _ (lexL a t (p + e.length + 2) l) ?_ h))
  · unfold tkL lexL lexB lexR
    exact imx 13 57491748161315509379136 13 rfl (by kernel_rfl)
  · rw [show p + 1 + e.length + 1 = p + e.length + 2 by omega] at hl'
    refine Im.trans hl' ?_
    unfold tkL lexL lexB lexR
    exact imx 10 201013273164005570 13 rfl (by kernel_rfl)
end
section
variable {G : Gr} {w : World} {l : List Ent} {n : Nat} {KV : Pt → List Ent → Prop}
theorem k_LambdaQ {B : Bx G w n} {env : Env} {L c P : Addr} {sc scope : Scope} {cs cl : List (Str × Addr)} {params : Arguments} {body : Expr} {pos : Pos} {tab : Array Value} (i : Nat) (hBM : BM G) (en : En env L sc cs) (hcode : env.code = .ref c) (C : codeHdIn (K w.params) c P = true) (hE : gE l i = some (P, tabQ tab)) (ht : TriplesOk tab.toList) (hnf : codeAmong pos tab.toList = none) (hcl : cloOf cs scope.names [] = some cl)
    (h : ∀ f c' fd, KV (.ref f) ((f, fnO fd) :: (c', coP (env.qual ++ "<lambda>")) :: sE l i (P, tabQ (tab ++ #[rawInt pos.line, rawInt pos.col, .ref c']))))
    (hdef : defaultsOf params env = ([], []) := by rfl) : WV B l (eval (.Lambda params body scope pos) env) KV :=
  k_Lambda i hBM en hcode C hE ht hnf hcl (fun f c' _ _ => h f c' _) hdef
theorem k_DefQ {B : Bx G w n} {env : Env} {L c P : Addr} {sc scope : Scope} {cs cl : List (Str × Addr)} {params : Arguments} {name : Str} {r : List Stmt} {KF : Fl → List Ent → Prop} {pos : Pos} {tab : Array Value} {body : List Stmt} (i : Nat) (hBM : BM G) (en : En env L sc cs) (hcode : env.code = .ref c) (C : codeHdIn (K w.params) c P = true) (hE : gE l i = some (P, tabQ tab)) (ht : TriplesOk tab.toList) (hnf : codeAmong pos tab.toList = none) (hcl : cloOf cs scope.names [] = some cl)
    (hd0 : params.defaults = []) (hk0 : params.kw_defaults = []) (ha : annTrees params none env = []) (ht2 : ∀ c', TriplesOk (tab ++ #[rawInt pos.line, rawInt pos.col, .ref c']).toList)
    (h : ∀ f c' doc pm ctv tab', TriplesOk tab'.toList → WU1 B ((f, fnO (fnX name (qualnameIn env name name) params body scope cl .none .none doc pm none (.ref c') ctv)) :: (c', coP (qualnameIn env name name)) :: sE l i (P, tabQ tab')) (storeName env name) (.ref f) (qRest B env r KF)) :
    WF B l (execs (.FunctionDef name params body [] none [] scope none name pos :: r) env) KF :=
  k_Def i hBM en hcode C hE ht hnf hcl hd0 hk0 ha fun f c' doc pm ctv => h f c' doc pm ctv _ (ht2 c')
theorem s_linit {x dx fp : Addr} (B : Bx G w 1) (h : ∀ pb, KV .none ((x, inst 179 dx []) :: (dx, dicP (lexD 1 fp pb)) :: (pb, lst []) :: l)) : WK B ((x, inst 179 dx []) :: (dx, dicP []) :: l) (.ref 155) [.ref x, .ref fp] KV := by
  refine k_enterK (fd := f155) (body := fBody (cst 8 0)) (by kernel_rfl) (by kernel_rfl) (by kernel_rfl) (by kernel_rfl) (by kernel_rfl) (by kernel_rfl) (by kernel_rfl) (bind2 (x := "self") (y := "fp") fun v u => by kernel_rfl) fun L env B KF en hR hN => ?_
  refine k_AssignAttr ?_
  refine k_int ?_
  refine k_name 0 1 en rfl rfl (by kernel_rfl) ?_
  refine k_setD 1 0 2 (Nat.le_of_ble_eq_true rfl) rfl rfl (by kernel_rfl) ?_
  refine k_AssignAttr ?_
  refine k_name 0 0 en rfl rfl (by kernel_rfl) ?_
  refine k_name 0 1 en rfl rfl (by kernel_rfl) ?_
  refine k_setD 1 1 2 (Nat.le_of_ble_eq_true rfl) rfl rfl (by kernel_rfl) ?_
  refine k_AssignAttr ?_
  refine k_str [10, 9, 13, 32] (by kernel_rfl) ?_
  refine k_name 0 1 en rfl rfl (by kernel_rfl) ?_
  refine k_setD 1 2 2 (Nat.le_of_ble_eq_true rfl) rfl rfl (by kernel_rfl) ?_
  refine k_AssignAttr ?_
  refine k_List ?_
  refine k_items_nil ?_
  refine ⟨Nat.le_of_ble_eq_true rfl, fun a => ?_⟩
  refine k_name 1 1 en rfl rfl (by kernel_rfl) ?_
  refine k_setD 2 3 3 (Nat.le_of_ble_eq_true rfl) rfl rfl (by kernel_rfl) ?_
  refine k_nil ?_
  refine hN _ _ ?_ (h a)
  exact imx 3 194 4 rfl (by kernel_rfl)
theorem s_lexer {t : Word} {at_ : Addr} (B : Bx G w 8) (hBM : BM G) (h : ∀ a : LexA, a.at_ = at_ → KV (.ref a.X) (lexL a t 0 ((260, tabP) :: l))) :
    WC B ((260, tabQ #[]) :: (at_, ils [.int 0]) :: l) (.ref 265) [.str t, .ref at_] KV := by
  refine k_enterCQ (fd := f265) (names := ["text", "at"]) (body := fBody st37) (by kernel_rfl) (by kernel_rfl) (by kernel_rfl) (by kernel_rfl) (by kernel_rfl) (by kernel_rfl) (by kernel_rfl) ?_ fun L cs env B B1 KF hfr hf hcd en hcs hR hN => ?_
  · intro vs hv
    cases hv with | cons h1 hv =>
    cases hv with | cons h2 hv =>
    cases hv
    exact ⟨[(_, _), (_, _)], by kernel_rfl, rfl, rfl⟩
  obtain ⟨as, ha1, rfl⟩ := cs_of (names := ["at", "text"]) (hcs.trans (by kernel_rfl))
  match as, ha1 with
  | [a1, a2], _ =>
  refine wbs_cons ?_
  refine k_storeC 1 en rfl rfl (by kernel_rfl) ?_
  refine wbs_cons ?_
  refine k_storeC 0 en rfl rfl (by kernel_rfl) ?_
  refine wbs_nil ?_
  refine k_Assign ?_
  refine k_LambdaQ (c := 264) (P := 260) 3 hBM en hcd (by kernel_rfl) rfl trivial rfl rfl fun fl cl fdl => ?_
  refine k_store 4 0 en rfl (by kernel_rfl) ?_
  refine k_DefQ (cl := [(Str.ofString "text", a2), (Str.ofString "at", a1)]) (c := 264) (P := 260) 5 hBM en hcd (by kernel_rfl) rfl trivial (by with_unfolding_all rfl) (by kernel_rfl) rfl rfl rfl (fun _ => trivial) fun g cg doc pm ctv tab ht => ?_
  refine k_store 6 1 en rfl (by kernel_rfl) ?_
  refine k_AssignAttr ?_
  refine k_name 6 1 en rfl rfl (by kernel_rfl) ?_
  refine k_name 6 0 en rfl rfl (by kernel_rfl) ?_
  refine k_setRd 2 rfl fun dd => ?_
  refine k_Return ?_
  refine k_ccall (C := 179) en (by kernel_rfl) (by kernel_rfl) (by kernel_rfl) ?_
  refine k_items_cons ?_
  refine k_name 7 0 en rfl rfl (by kernel_rfl) ?_
  refine k_items_nil ?_
  refine c_make (fI := 155) (by kernel_rfl) (by kernel_rfl) (by kernel_rfl) fun B' x dx => ?_
  refine s_linit (B'.le (by decide)) fun pb => ⟨rfl, ?_⟩
  refine hR _ _ _ ?_ (h ⟨x, dx, pb, fl, dd, g, cg, a2, a1, at_, fdl, qualnameIn env (Str.ofString "_law_give") (Str.ofString "_law_give"), doc, pm, ctv⟩ rfl)
  unfold lexL lexB lexR
  rw [show lnAt t 0 = 1 by simp [lnAt]]
  refine Im.trans ?_ (.tl (.tl (.tl (.tl (.tl (.tl (.tl (.tl (.tl (.tl (.wk (P := tabQ tab) .head (fun o ho => ⟨tab, ho, ht⟩) .refl)))))))))))
  exact imx 11 12900601062965649472 13 rfl (by kernel_rfl)
end
structure LwA where
  apl : Addr
  ash : Addr
  ac : Addr
  ato : Addr
  alx : Addr
  atu : Addr
  anm : Addr
  aj : Addr
  afi : Addr
  L : Addr
noncomputable abbrev lwL (a : LwA) (vpl vsh vc vto vlx vtu vnm vj vfi : Option Pt) (loc : Loc) (l : List Ent) : List Ent :=
  (a.apl, cel vpl) :: (a.ash, cel vsh) :: (a.ac, cel vc) :: (a.ato, cel vto) :: (a.alx, cel vlx) :: (a.atu, cel vtu) :: (a.anm, cel vnm) :: (a.aj, cel vj) :: (a.afi, cel vfi) :: (a.L, nsP loc) :: l
noncomputable def FL (rs : List FileR) : List Ent := rs.reverse.flatMap fileL
noncomputable abbrev lwC (a : LwA) : List (Str × Addr) := [("place", a.apl), ("shows", a.ash), ("c", a.ac), ("told", a.ato), ("lex", a.alx), ("turned", a.atu), ("names", a.anm), ("j", a.aj), ("files", a.afi)]
noncomputable def nmR (k : Nat) (r : FileR) : Word := fmW r.mode 10 ++ [48 + k] ++ r.held.map fun j => 48 + j.toNat
noncomputable def nmW (rs : List FileR) (k : Nat) : Word := nmR k (rs.getD k ⟨0, 0, 0, [], 0⟩)
noncomputable def namesW (rs : List FileR) (n : Nat) : List Word := (List.range n).map (nmW rs)
theorem namesW_succ (rs : List FileR) (n : Nat) : namesW rs (n + 1) = namesW rs n ++ [nmW rs n] := by unfold namesW; rw [List.range_succ, List.map_append]; rfl
theorem namesW_len (rs : List FileR) (n : Nat) : (namesW rs n).length = n := by unfold namesW; rw [List.length_map, List.length_range]
theorem nmW_at {rs : List FileR} {k : Nat} {r : FileR} (h : rs[k]? = some r) : nmW rs k = nmR k r := by unfold nmW; rw [List.getD_eq_getElem?_getD, h]; rfl
theorem has_ta {rs : List FileR} {k : Nat} {r : FileR} (h : rs[k]? = some r) (l : List Ent) : Has r.ta (tup [.int r.mode, .ref r.ha, .int r.man]) (FL rs ++ l) :=
  .of_mem (List.mem_append_left _ (List.mem_flatMap.mpr ⟨r, List.mem_reverse.mpr (List.mem_of_getElem? h), .head _⟩))
theorem has_ha {rs : List FileR} {k : Nat} {r : FileR} (h : rs[k]? = some r) (l : List Ent) : Has r.ha (lst (r.held.map Pt.int)) (FL rs ++ l) :=
  .of_mem (List.mem_append_left _ (List.mem_flatMap.mpr ⟨r, List.mem_reverse.mpr (List.mem_of_getElem? h), .tail _ (.head _)⟩))
section
variable {G : Gr} {w : World} {l : List Ent} {n : Nat} {KV : Pt → List Ent → Prop}
theorem k_getTH {B : Bx G w n} {a : Addr} {vs : List Pt} {i : Int} {p : Pt} {value slice : Expr} (hL : Has a (tup vs) l) (h0 : 0 ≤ i) (hf : i < 2 ^ 63) (hv : vs[i.toNat]? = some p) (h : KV p l) : WV2 B l (subscriptTail value slice) (.ref a) (.int i) KV :=
  let ⟨j, e⟩ := hL.idx
  k_getT j e h0 hf hv h
theorem k_iterLH {B : Bx G w n} {a : Addr} {vs : List Pt} (hL : Has a (lst vs) l) (h : ∀ it, KV (.ref it) ((it, li a 0) :: l)) : WV1 B l pyIter (.ref a) KV :=
  let ⟨j, e⟩ := hL.idx
  k_iterL j e h
theorem take_str {js : List Int} {i d : Nat} (h : js[i]? = some (d : Int)) : ((js.take (i + 1)).map fun j => [48 + j.toNat]).map Pt.str = ((js.take i).map fun j => [48 + j.toNat]).map Pt.str ++ [Pt.str [48 + d]] := by
  rw [List.take_add_one, h]; simp
noncomputable abbrev lw1 (la : LwA) (sa fa : Addr) (rs : List FileR) (vnm : Option Pt) (l : List Ent) : List Ent :=
  lwL la none none none none none none vnm none (some (.ref fa)) [bd "script" (.ref sa)] ((260, tabQ #[]) :: (fa, lst (rs.map fun r => Pt.ref r.ta)) :: (FL rs ++ l))
theorem l_names {la : LwA} {sa fa : Addr} {rs : List FileR} {env : Env} {KF : Fl → List Ent → Prop} (B : Bx G w 20) (en : En env la.L f304.scope (lwC la)) (hrl : rs.length = 5) (hrf : ∀ k r, rs[k]? = some r → FileOk k r)
    (h : ∀ na, WF B (lw1 la sa fa rs (some (.ref na)) ((na, lst ((namesW rs 5).map Pt.str)) :: l)) (execs ((fBody st44).drop 2) env) KF) : WF B (lw1 la sa fa rs none l) (execs ((fBody st44).drop 1) env) KF := by
  unfold lw1 lwL
  refine k_AsgComp en (by kernel_rfl) ?_
  refine k_ListComp [("files", la.afi)] en rfl (by kernel_rfl) ?_
  refine k_tcall (T := "range") en (by kernel_rfl) (by kernel_rfl) (by kernel_rfl) ?_
  refine k_items_cons ?_
  refine k_int ?_
  refine k_items_nil ?_
  refine c_range fun a => ?_
  refine k_iterR (m := 5) .head (by decide) (by decide) (by decide) fun it => ?_
  refine ⟨it, rfl, fun acc C env2 en2 => ?_⟩
  refine k_comp1 (α := Unit) 5 (fun k => ri k ((5 : Nat) - (k : Int)) 1) (fun k p => p = .int k) (fun _ _ => True)
    (fun k _ => (C, nsP [("k", none)]) :: (acc, lst ((namesW rs k).map Pt.str)) :: lw1 la sa fa rs none l)
    (fun it => src_range0) ?_ ?_ it () trivial ?_ (self_ri 2 rfl)
  · intro it k _ p K' hk _ hp hK
    subst hp
    obtain ⟨r, hr⟩ : ∃ r, rs[k]? = some r := ⟨_, List.getElem?_eq_getElem (by omega)⟩
    have hv : (rs.map fun r => Pt.ref r.ta)[(k : Int).toNat]? = some (.ref r.ta) := by rw [Int.toNat_natCast, List.getElem?_map, hr]; rfl
    obtain ⟨h1, h2, h3, h4, h5⟩ := hrf k r hr
    have hhl : r.held.length ≤ 3 := by rw [h4]; split <;> decide
    have hnl := namesW_len rs k
    unfold lw1 lwL
    refine k_asgTN ?_
    refine k_store 1 0 en2 rfl (by kernel_rfl) ?_
    refine wifs_nil ?_
    refine k_BinOp ?_
    refine k_BinOp ?_
    refine k_call (f := 244) (fd := f244) en2 (by kernel_rfl) (by kernel_rfl) (by kernel_rfl) ?_
    refine k_items_cons ?_
    refine k_Subscript ?_
    refine k_Subscript ?_
    refine k_cell 11 en2 rfl rfl (by kernel_rfl) ?_
    refine k_name 1 0 en2 rfl rfl (by kernel_rfl) ?_
    refine k_get (.ofL 14 rfl) (by omega) (by omega) (by assumption) ?_
    refine k_int ?_
    refine k_getTH (p := .int r.mode) (by repeat first | exact has_ta hr _ | refine Has.tail ?_) (by decide) (by decide) rfl ?_
    refine k_items_nil ?_
    refine s_filemode (B.le (by decide)) ?_
    refine k_tcall (T := "str") en2 (by kernel_rfl) (by kernel_rfl) (by kernel_rfl) ?_
    refine k_items_cons ?_
    refine k_name 1 0 en2 rfl rfl (by kernel_rfl) ?_
    refine k_items_nil ?_
    refine c_str (by first | decide | omega | (simp; omega) | exact Nat.le_of_ble_eq_true rfl | (simp; done)) ?_
    refine k_sadd (by first | decide | omega | (simp; omega) | exact Nat.le_of_ble_eq_true rfl | (simp; done)) ?_
    refine k_sm1 PySem.F.slot_str_join PySem.F.type_str_join ?_
    refine k_str [] (by kernel_rfl) ?_
    refine ⟨[], rfl, ?_⟩
    refine k_ListComp [] en2 rfl (by kernel_rfl) ?_
    refine k_Subscript ?_
    refine k_Subscript ?_
    refine k_cell 11 en2 rfl rfl (by kernel_rfl) ?_
    refine k_name 1 0 en2 rfl rfl (by kernel_rfl) ?_
    refine k_get (.ofL 14 rfl) (by omega) (by omega) (by assumption) ?_
    refine k_int ?_
    refine k_getTH (p := .ref r.ha) (by repeat first | exact has_ta hr _ | refine Has.tail ?_) (by decide) (by decide) rfl ?_
    skip
    refine k_iterLH (by repeat first | exact has_ha hr _ | refine Has.tail ?_) fun it2 => ?_
    refine ⟨it2, rfl, fun acc2 C2 env3 en3 => ?_⟩
    refine k_comp1 (α := Unit) (r.held.map Pt.int).length (fun i => li r.ha i) (fun i p => (r.held.map Pt.int)[i]? = some p) (fun _ _ => True)
      (fun i _ => (C2, nsP [("j", none)]) :: (acc2, lst (((r.held.take i).map fun j => [48 + j.toNat]).map Pt.str)) :: (it, ri ((k : Int) + 1) ((5 : Nat) - ((k : Int) + 1)) 1) :: (C, nsP [bd "k" (.int k)]) :: (acc, lst ((namesW rs k).map Pt.str)) :: lw1 la sa fa rs none l)
      (fun it => src_list fun k' l' h => by obtain ⟨_, _, rfl⟩ := h; unfold lw1 lwL; repeat first | exact has_ha hr _ | refine Has.tail ?_) ?_ ?_ it2 () trivial ?_ (self_li 2 rfl)
    · intro it3 i _ p K2 hi _ hp hK2
      obtain ⟨j, hj, rfl⟩ := List.getElem?_map .. ▸ hp |> Option.map_eq_some_iff.mp
      have hj5 := h5 j (List.mem_of_getElem? hj)
      obtain ⟨d, rfl⟩ : ∃ d : Nat, j = (d : Int) := ⟨j.toNat, by omega⟩
      unfold lw1 lwL
      refine k_asgTN ?_
      refine k_store 1 0 en3 rfl (by kernel_rfl) ?_
      refine wifs_nil ?_
      refine k_tcall (T := "str") en3 (by kernel_rfl) (by kernel_rfl) (by kernel_rfl) ?_
      refine k_items_cons ?_
      refine k_name 1 0 en3 rfl rfl (by kernel_rfl) ?_
      refine k_items_nil ?_
      refine c_str (by first | decide | omega | (simp; omega) | exact Nat.le_of_ble_eq_true rfl | (simp; done)) ?_
      refine c_append 2 rfl (by first | decide | omega | (simp; omega) | exact Nat.le_of_ble_eq_true rfl | (simp; done)) ?_
      refine hK2 _ () trivial ?_
      rw [take_str hj]
      exact imw 1 1 rfl rfl (Wk.w (.forget .refl)) (imx 18 87486735302221364993191469391936 18 rfl (by kernel_rfl))
    · intro _ _
      unfold lw1 lwL
      refine k_endC (.keep .head .refl) ?_
      rw [List.length_map, List.take_length, show (r.held.map fun j => [48 + j.toNat]) = (r.held.map fun j => 48 + j.toNat).map fun c => [c] by rw [List.map_map]; rfl]
      refine c_join (.ofL 0 rfl) (by rw [flat_one, List.length_map]; omega) ?_
      rw [flat_one]
      have hfl := fmW_len r.mode
      skip
      refine k_sadd (by rw [List.length_append, List.length_map, hfl]; simp; omega) ?_
      refine c_append 3 rfl (by first | decide | omega | (simp; omega) | exact Nat.le_of_ble_eq_true rfl | (simp; done)) ?_
      refine hK _ () trivial ?_
      rw [namesW_succ, nmW_at hr, List.map_append]
      unfold lw1 lwL
      exact imw 2 1 rfl rfl (Wk.w (.forget .refl)) (imx 15 294435726149004529983565953 16 rfl (by kernel_rfl))
    · unfold lw1 lwL
      exact imw 0 1 rfl rfl (Wk.w (.new .refl)) (imx 18 87486735302221364993191469387778 18 rfl (by kernel_rfl))
  · intro _ _
    unfold lw1 lwL
    refine k_endC (.keep .head .refl) ?_
    refine k_storeC 7 en rfl rfl (by kernel_rfl) ?_
    refine WF.im ?_ (h acc)
    unfold lw1 lwL
    refine imxk 12 898308565020554834049 13 rfl (by kernel_rfl) ?_
    exact .perm List.perm_middle.symm .refl
  · unfold lw1 lwL
    exact imw 0 1 rfl rfl (Wk.w (.new .refl)) (imx 15 294435726149004529983557634 16 rfl (by kernel_rfl))
end
noncomputable def ordI (T : Int) (k : Nat) : Int := (T + k * (1 + T / 5 % 4)) % 5
noncomputable def ordW (T : Int) (n : Nat) : List Nat := (List.range n).map fun k => (ordI T k).toNat
theorem ordI_nat (T : Int) (k : Nat) : ordI T k = ((ordI T k).toNat : Nat) := by
  have := Int.emod_nonneg (T + k * (1 + T / 5 % 4)) (b := 5) (by decide)
  unfold ordI; omega
theorem ordW_succ (T : Int) (n : Nat) : ordW T (n + 1) = ordW T n ++ [(ordI T n).toNat] := by unfold ordW; rw [List.range_succ, List.map_append]; rfl
theorem ordW_len (T : Int) (n : Nat) : (ordW T n).length = n := by unfold ordW; rw [List.length_map, List.length_range]
noncomputable abbrev pti (k : Nat) : Pt := .int (k : Nat)
section
variable {G : Gr} {w : World} {l : List Ent} {n : Nat} {KV : Pt → List Ent → Prop}
noncomputable abbrev lw2 (la : LwA) (sa fa na : Addr) (rs : List FileR) (vtu : Option Pt) (loc : Loc) (l : List Ent) : List Ent :=
  lwL la none none none none none vtu (some (.ref na)) none (some (.ref fa)) ([bd "script" (.ref sa)] ++ loc) ((260, tabQ #[]) :: (fa, lst (rs.map fun r => Pt.ref r.ta)) :: (na, lst ((namesW rs 5).map Pt.str)) :: (FL rs ++ l))
theorem l_order {la : LwA} {sa fa na : Addr} {rs : List FileR} {ns : List Int} {T : Int} {env : Env} {KF : Fl → List Ent → Prop} (B : Bx G w 20) (en : En env la.L f304.scope (lwC la)) (hs : BL G sa (ns.map Pt.int)) (hT : T = ns.sum + 7)
    (h : ∀ oa, WF B (lw2 la sa fa na rs (some (.int T)) [bd "order" (.ref oa)] ((oa, lst ((ordW T 5).map pti)) :: l)) (execs ((fBody st44).drop 4) env) KF) : WF B (lw2 la sa fa na rs none [] l) (execs ((fBody st44).drop 2) env) KF := by
  unfold lw2 lwL
  refine k_Assign ?_
  refine k_BinOp ?_
  refine k_bcall (id := "sum") en (by kernel_rfl) (by kernel_rfl) (by kernel_rfl) ?_
  refine k_items_cons ?_
  refine k_name 9 0 en rfl rfl (by kernel_rfl) ?_
  refine k_items_nil ?_
  refine c_sum hs ?_
  refine k_int ?_
  refine k_add ?_
  rw [← hT]
  refine k_storeC 5 en rfl rfl (by kernel_rfl) ?_
  refine k_AsgListComp [("turned", la.atu)] en rfl (by kernel_rfl) (by kernel_rfl) ?_
  refine k_tcall (T := "range") en (by kernel_rfl) (by kernel_rfl) (by kernel_rfl) ?_
  refine k_items_cons ?_
  refine k_int ?_
  refine k_items_nil ?_
  refine c_range fun a => ?_
  refine k_iterR (m := 5) .head (by decide) (by decide) (by decide) fun it => ?_
  refine ⟨it, rfl, fun acc C env2 en2 => ?_⟩
  refine k_comp1 (α := Unit) 5 (fun k => ri k ((5 : Nat) - (k : Int)) 1) (fun k p => p = .int k) (fun _ _ => True)
    (fun k _ => (C, nsP [("k", none)]) :: (acc, lst ((ordW T k).map pti)) :: lw2 la sa fa na rs (some (.int T)) [] l)
    (fun it => src_range0) ?_ ?_ it () trivial ?_ (self_ri 2 rfl)
  · intro it k _ p K' hk _ hp hK
    subst hp
    have hnl := ordW_len T k
    unfold lw2 lwL
    refine k_asgTN ?_
    refine k_store 1 0 en2 rfl (by kernel_rfl) ?_
    refine wifs_nil ?_
    refine k_BinOp ?_
    refine k_BinOp ?_
    refine k_cell 8 en2 rfl rfl (by kernel_rfl) ?_
    refine k_BinOp ?_
    refine k_name 1 0 en2 rfl rfl (by kernel_rfl) ?_
    refine k_BinOp ?_
    refine k_int ?_
    refine k_BinOp ?_
    refine k_BinOp ?_
    refine k_cell 8 en2 rfl rfl (by kernel_rfl) ?_
    refine k_int ?_
    refine k_fdiv (by first | with_reducible assumption | decide | omega) (by first | with_reducible assumption | decide | omega) ?_
    refine k_int ?_
    refine k_mod (by first | with_reducible assumption | decide | omega) ?_
    refine k_add ?_
    refine k_mul (by mul_fits) ?_
    refine k_add ?_
    refine k_int ?_
    refine k_mod (by first | with_reducible assumption | decide | omega) ?_
    refine c_append 2 rfl (by first | decide | omega | (simp; omega) | exact Nat.le_of_ble_eq_true rfl | (simp; done)) ?_
    refine hK _ () trivial ?_
    have e1 : (ordW T (k + 1)).map pti = (ordW T k).map pti ++ [Pt.int ((T + k * (1 + T / 5 % 4)) % 5)] := by
      rw [ordW_succ, List.map_append]
      show _ ++ [pti (ordI T k).toNat] = _
      unfold pti
      rw [← ordI_nat]
      rfl
    rw [e1]
    unfold lw2 lwL
    exact imw 1 1 rfl rfl (Wk.w (.forget .refl)) (imx 16 18843886473536289918948220992 16 rfl (by kernel_rfl))
  · intro _ _
    unfold lw2 lwL
    refine k_store 11 1 en rfl (by kernel_rfl) ?_
    refine k_endC (.keep .head .refl) ?_
    refine WF.im ?_ (h acc)
    unfold lw2 lwL
    refine imxk 13 62289072842325942612097 14 rfl (by kernel_rfl) ?_
    exact .perm List.perm_middle.symm .refl
  · unfold lw2 lwL
    exact imw 0 1 rfl rfl (Wk.w (.new .refl)) (imx 16 20101476354715088928369545218 17 rfl (by kernel_rfl))
end
noncomputable def wrW (rs : List FileR) (k : Nat) : Word := written (nmW rs k) (rs.getD k ⟨0, 0, 0, [], 0⟩).man.toNat
theorem ordW_lt (T : Int) {k : Nat} (h : k ∈ ordW T 5) : k < 5 := by
  unfold ordW at h
  obtain ⟨i, _, rfl⟩ := List.mem_map.mp h
  unfold ordI
  have := Int.emod_lt_of_pos (T + i * (1 + T / 5 % 4)) (b := 5) (by decide)
  have := Int.emod_nonneg (T + i * (1 + T / 5 % 4)) (b := 5) (by decide)
  omega
theorem names_at {rs : List FileR} {k : Nat} (h : k < 5) : ((namesW rs 5).map Pt.str)[(k : Int).toNat]? = some (.str (nmW rs k)) := by
  unfold namesW
  rw [Int.toNat_natCast, List.getElem?_map, List.getElem?_map, List.getElem?_range h]; rfl
theorem files_at {rs : List FileR} {k : Nat} {r : FileR} (h : rs[k]? = some r) : (rs.map fun r => Pt.ref r.ta)[(k : Int).toNat]? = some (.ref r.ta) := by
  rw [Int.toNat_natCast, List.getElem?_map, h]; rfl
theorem getD_file {rs : List FileR} {k : Nat} {r : FileR} (h : rs[k]? = some r) : rs.getD k ⟨0, 0, 0, [], 0⟩ = r := by rw [List.getD_eq_getElem?_getD, h]; rfl
theorem take_map {α β : Type} {f : α → β} {xs : List α} {i : Nat} {x : α} (h : xs[i]? = some x) : (xs.take (i + 1)).map f = (xs.take i).map f ++ [f x] := by
  rw [List.take_add_one, h, List.map_append]; rfl
theorem nmR_len {k : Nat} {r : FileR} (h : FileOk k r) : 11 ≤ (nmR k r).length ∧ (nmR k r).length ≤ 14 := by
  obtain ⟨_, _, _, h4, _⟩ := h
  unfold nmR
  rw [List.length_append, List.length_append, List.length_map, fmW_len, h4, List.length_singleton]
  split <;> omega
theorem written_len (y : Word) (m : Nat) : (written y m).length ≤ 2 * y.length + 4 := by
  unfold written cutS
  dsimp only
  split <;> simp <;> omega
theorem flat_le {ys : List Word} {m : Nat} (h : ∀ y ∈ ys, y.length ≤ m) : ys.flatten.length ≤ m * ys.length := by
  induction ys with
  | nil => simp
  | cons y r ih =>
    have h1 := h y (.head _)
    have h2 := ih fun z hz => h z (.tail _ hz)
    rw [List.flatten_cons, List.length_append, List.length_cons, Nat.mul_succ]; omega
section
variable {G : Gr} {w : World} {l : List Ent} {n : Nat} {KV : Pt → List Ent → Prop}
noncomputable abbrev lw3 (la : LwA) (sa fa na oa : Addr) (rs : List FileR) (T : Int) (vto vlx : Option Pt) (loc : Loc) (l : List Ent) : List Ent :=
  lwL la none none none vto vlx (some (.int T)) (some (.ref na)) none (some (.ref fa)) ([bd "script" (.ref sa), bd "order" (.ref oa)] ++ loc) ((fa, lst (rs.map fun r => Pt.ref r.ta)) :: (na, lst ((namesW rs 5).map Pt.str)) :: (oa, lst ((ordW T 5).map pti)) :: (FL rs ++ l))
theorem l_text {la : LwA} {sa fa na oa : Addr} {rs : List FileR} {T : Int} {env : Env} {KF : Fl → List Ent → Prop} (B : Bx G w 20) (en : En env la.L f304.scope (lwC la)) (hrl : rs.length = 5) (hrf : ∀ k r, rs[k]? = some r → FileOk k r)
    (h : WF B (lw3 la sa fa na oa rs T none none [bd "text" (.str ((ordW T 5).map (wrW rs)).flatten)] l) (execs ((fBody st44).drop 5) env) KF) : WF B (lw3 la sa fa na oa rs T none none [] l) (execs ((fBody st44).drop 4) env) KF := by
  unfold lw3 lwL
  refine k_Assign ?_
  refine k_sm1 PySem.F.slot_str_join PySem.F.type_str_join ?_
  refine k_str [] (by kernel_rfl) ?_
  refine ⟨[], rfl, ?_⟩
  refine k_ListComp [("names", la.anm), ("files", la.afi)] en rfl (by kernel_rfl) ?_
  refine k_name 9 1 en rfl rfl (by kernel_rfl) ?_
  refine k_iterL 12 rfl fun it => ?_
  refine ⟨it, rfl, fun acc C env2 en2 => ?_⟩
  have hol := ordW_len T 5
  refine k_comp1 (α := Unit) ((ordW T 5).map pti).length (fun i => li oa i) (fun i p => ((ordW T 5).map pti)[i]? = some p) (fun _ _ => True)
    (fun i _ => (C, nsP [("k", none)]) :: (acc, lst ((((ordW T 5).take i).map (wrW rs)).map Pt.str)) :: lw3 la sa fa na oa rs T none none [] l)
    (fun it => src_list fun k' l' h => by obtain ⟨_, _, rfl⟩ := h; exact .tail (.tail (.tail (.tail (.tail (.tail (.tail (.tail (.tail (.tail (.tail (.tail (.tail (.tail .head)))))))))))))) ?_ ?_ it () trivial ?_ (self_li 2 rfl)
  · intro it i _ p K' hi _ hp hK
    obtain ⟨k, hk, rfl⟩ := Option.map_eq_some_iff.mp ((List.getElem?_map (f := pti) (l := ordW T 5) (i := i)).symm.trans hp)
    have hk5 := ordW_lt T (List.mem_of_getElem? hk)
    obtain ⟨r, hr⟩ : ∃ r, rs[k]? = some r := ⟨_, List.getElem?_eq_getElem (by omega)⟩
    have hv := files_at hr
    have hv2 := names_at (rs := rs) hk5
    have hok := hrf k r hr
    have hnl := nmR_len hok
    obtain ⟨h1, h2, h3, h4, h5⟩ := hok
    rw [List.length_map] at hi
    obtain ⟨m, hm⟩ : ∃ m : Nat, r.man = (m : Int) := ⟨r.man.toNat, by omega⟩
    unfold lw3 lwL
    refine k_asgTN ?_
    refine k_store 1 0 en2 rfl (by kernel_rfl) ?_
    refine wifs_nil ?_
    refine k_call (f := 258) (fd := f258) en2 (by kernel_rfl) (by kernel_rfl) (by kernel_rfl) ?_
    refine k_items_cons ?_
    refine k_Subscript ?_
    refine k_cell 9 en2 rfl rfl (by kernel_rfl) ?_
    refine k_name 1 0 en2 rfl rfl (by kernel_rfl) ?_
    refine k_get (.ofL 14 rfl) (by omega) (by omega) (by assumption) ?_
    refine k_items_cons ?_
    refine k_Subscript ?_
    refine k_Subscript ?_
    refine k_cell 11 en2 rfl rfl (by kernel_rfl) ?_
    refine k_name 1 0 en2 rfl rfl (by kernel_rfl) ?_
    refine k_get (.ofL 13 rfl) (by omega) (by omega) (by assumption) ?_
    refine k_int ?_
    refine k_getTH (p := .int (m : Int)) (by repeat first | exact has_ta hr _ | refine Has.tail ?_) (by decide) (by decide) (by rw [hm]; rfl) ?_
    refine k_items_nil ?_
    refine s_written (B.le (by decide)) (by rw [nmW_at hr]; omega) ?_
    have hw : written (nmW rs k) m = wrW rs k := by unfold wrW; rw [getD_file hr, hm]; rfl
    rw [hw]
    have htl : ((((ordW T 5).take i).map (wrW rs)).map Pt.str).length ≤ 1000 := by rw [List.length_map, List.length_map, List.length_take]; omega
    refine c_append 2 rfl (by first | decide | omega | (simp; omega) | exact Nat.le_of_ble_eq_true rfl | (simp; done)) ?_
    refine hK _ () trivial ?_
    rw [take_map hk, List.map_append]
    unfold lw3 lwL
    exact imw 1 1 rfl rfl (Wk.w (.forget .refl)) (imx 16 18843886473536289918948220992 16 rfl (by kernel_rfl))
  · intro _ _
    rw [List.length_map, hol, List.take_of_length_le (Nat.le_of_eq hol)]
    have hfl := flat_le (ys := (ordW T 5).map (wrW rs)) (m := 32) fun y hy => by
      obtain ⟨k, hk, rfl⟩ := List.mem_map.mp hy
      have hk5 := ordW_lt T hk
      obtain ⟨r, hr⟩ : ∃ r, rs[k]? = some r := ⟨_, List.getElem?_eq_getElem (by omega)⟩
      have := nmR_len (hrf k r hr)
      have := written_len (nmW rs k) (rs.getD k ⟨0, 0, 0, [], 0⟩).man.toNat
      rw [nmW_at hr] at this
      show (written (nmW rs k) _).length ≤ 32
      rw [nmW_at hr]
      omega
    rw [List.length_map, hol] at hfl
    unfold lw3 lwL
    refine k_endC (.keep .head .refl) ?_
    refine c_join (.ofL 0 rfl) (by omega) ?_
    refine k_store 10 2 en rfl (by kernel_rfl) ?_
    refine WF.im ?_ h
    unfold lw3 lwL
    exact imx 13 62289072842325942612097 14 rfl (by kernel_rfl)
  · unfold lw3 lwL
    exact imw 0 1 rfl rfl (Wk.w (.new .refl)) (imx 16 18843886473536289918948216834 16 rfl (by kernel_rfl))
end
structure LwB where
  sa : Addr
  fa : Addr
  na : Addr
  oa : Addr
section
variable {G : Gr} {w : World} {l : List Ent} {n : Nat} {KV : Pt → List Ent → Prop}
noncomputable abbrev lw4 (la : LwA) (lb : LwB) (a : LexA) (t : Word) (p : Nat) (rs : List FileR) (T : Int) (vsh vc vto : Option Pt) (loc : Loc) (l : List Ent) : List Ent :=
  lexL a t p (lwL la none vsh vc vto (some (.ref a.X)) (some (.int T)) (some (.ref lb.na)) none (some (.ref lb.fa)) ([bd "script" (.ref lb.sa), bd "order" (.ref lb.oa), bd "text" (.str t), bd "at" (.ref a.at_)] ++ loc) ((lb.fa, lst (rs.map fun r => Pt.ref r.ta)) :: (lb.na, lst ((namesW rs 5).map Pt.str)) :: (lb.oa, lst ((ordW T 5).map pti)) :: (FL rs ++ l)))
theorem l_lex {la : LwA} {lb : LwB} {rs : List FileR} {T : Int} {t : Word} {env : Env} {KF : Fl → List Ent → Prop} (B : Bx G w 20) (hBM : BM G) (en : En env la.L f304.scope (lwC la))
    (h : ∀ a : LexA, WF B (lw4 la lb a t 0 rs T none none none [] ((260, tabP) :: l)) (execs ((fBody st44).drop 7) env) KF) : WF B (lw3 la lb.sa lb.fa lb.na lb.oa rs T none none [bd "text" (.str t)] ((260, tabQ #[]) :: l)) (execs ((fBody st44).drop 5) env) KF := by
  unfold lw3 lwL
  skip
  refine k_Assign ?_
  refine k_List ?_
  refine k_items_cons ?_
  refine k_int ?_
  refine k_items_nil ?_
  refine ⟨Nat.le_of_ble_eq_true rfl, fun a => ?_⟩
  refine k_store 10 3 en rfl (by kernel_rfl) ?_
  refine .im (l' := (260, tabQ #[]) :: (a, ils [.int 0]) :: lwL la none none none none none (some (.int T)) (some (.ref lb.na)) none (some (.ref lb.fa)) ([bd "script" (.ref lb.sa), bd "order" (.ref lb.oa), bd "text" (.str t), bd "at" (.ref a)]) ((lb.fa, lst (rs.map fun r => Pt.ref r.ta)) :: (lb.na, lst ((namesW rs 5).map Pt.str)) :: (lb.oa, lst ((ordW T 5).map pti)) :: (FL rs ++ l))) ?_ ?_
  · refine Im.trans (imTl (.perm List.perm_middle .refl) [_, _, _, _, _, _, _, _, _, _, _, _, _, _]) ?_
    refine Im.trans (.wk .head ils_of .refl) ?_
    unfold lwL
    exact imx 15 255136042362167060939149326 15 rfl (by kernel_rfl)
  unfold lwL
  refine k_Assign ?_
  refine k_call (f := 265) (fd := f265) en (by kernel_rfl) (by kernel_rfl) (by kernel_rfl) ?_
  refine k_items_cons ?_
  refine k_name 11 2 en rfl rfl (by kernel_rfl) ?_
  refine k_items_cons ?_
  refine k_name 11 3 en rfl rfl (by kernel_rfl) ?_
  refine k_items_nil ?_
  refine s_lexer (at_ := a) (B.le (by decide)) hBM fun xa e => ?_
  unfold lexL lexB lexR
  refine k_storeC 15 en rfl rfl (by kernel_rfl) ?_
  refine .im ?_ (h xa)
  rw [← e]
  unfold lw4 lexL lexB lexR lwL
  refine imxk 23 127123799475121025088749194579141947301952 24 rfl (by kernel_rfl) ?_
  exact .perm List.perm_middle.symm .refl
end
noncomputable def plW (y : Word) : Prop := ∀ c ∈ y, ([10, 9, 13, 32, 34, 92].contains c) = false
theorem Wr.plain {e w2 : Word} (h : Wr e w2) : ∀ {y : Word}, plW y → Wr (y ++ e) (y ++ w2)
  | [], _ => h
  | c :: y, hy => .ch (hy c (.head _)) (Wr.plain h fun d hd => hy d (.tail _ hd))
theorem wr_piece {y : Word} {d : Nat} (hy : plW y) (hd : d < y.length) : Wr (cutS y none (some d) ++ [92] ++ cutS y (some d) none) y := by
  have e1 : cutS y none (some d) = y.take d := rfl
  have e2 : cutS y (some d) none = y[d] :: y.drop (d + 1) := by
    show (y.drop d).take (y.length - d) = _
    rw [List.take_of_length_le (by rw [List.length_drop]; exact Nat.le_refl _), List.drop_eq_getElem_cons hd]
  rw [e1, e2, List.append_assoc]
  have h1 : Wr (92 :: y[d] :: y.drop (d + 1)) (y[d] :: y.drop (d + 1)) := .esc (by
    have := Wr.plain .nil (y := y.drop (d + 1)) fun c hc => hy c (List.mem_of_mem_drop hc)
    simpa using this)
  have h2 := Wr.plain h1 (y := y.take d) fun c hc => hy c (List.mem_of_mem_take hc)
  rw [← List.drop_eq_getElem_cons hd, List.take_append_drop] at h2
  rw [List.drop_eq_getElem_cons hd] at h2
  exact h2
theorem qlen (x : Word) (p : Nat) : p + ([34] ++ x ++ [34]).length = p + x.length + 2 := by
  rw [List.length_append, List.length_append]; show p + (1 + x.length + 1) = _; omega
section
variable {G : Gr} {w : World} {l : List Ent} {n : Nat} {KV : Pt → List Ent → Prop}
theorem s_token {a : LexA} {t : Word} {p m : Nat} {y more : Word} (B : Bx G w 6) (hz : t.length ≤ 100000) (hy : plW y) (h11 : 11 ≤ y.length) (h14 : y.length ≤ 14) (hm : m < 40) (hd : t.drop p = written y m ++ more)
    (h : KV (.str y) (lexL a t (p + (written y m).length) l)) : WC B (lexL a t p l) (.ref 169) [.ref a.X] KV := by
  have hW := wr_piece (d := m / 4) hy (by omega)
  unfold written at hd h
  dsimp only at hd h
  by_cases q : m % 4 = 3
  · rw [if_pos q] at hd h
    refine s_tokquoted B hz (by omega) hW (rest := more) (by rw [hd]; simp) ?_
    rw [qlen] at h
    exact h
  · rw [if_neg q] at hd h
    refine s_tokplain B hz (by omega) (fun e => by rw [e] at h11; exact absurd h11 (by decide)) hW (sep := ([10, 9, 32] : List Nat).getD (m % 4) 0) ?_ (rest := more) (by rw [hd, List.append_assoc]; rfl) ?_
    · have : m % 4 = 0 ∨ m % 4 = 1 ∨ m % 4 = 2 := by omega
      rcases this with e | e | e <;> rw [e] <;> rfl
    · rw [List.length_append, List.length_singleton, ← Nat.add_assoc] at h
      exact h
end
theorem fmCh_in (mode : Int) (k : Nat) (ys : List (Addr × Nat × Nat)) : fmCh mode k ys ∈ ys.map (fun y => y.2.2) ++ [63, 45] := by
  unfold fmCh
  cases e : ys.find? (fmHit mode k) with
  | none => by_cases q : k = 0 <;> simp [q]
  | some y => exact List.mem_append_left _ (List.mem_map.mpr ⟨y, List.mem_of_find?_eq_some e, rfl⟩)
theorem fmW_plain (mode : Int) : ∀ c ∈ fmW mode 10, c ∈ [108, 115, 45, 98, 100, 99, 112, 114, 119, 83, 120, 116, 84, 63] := fun c hc => by
  unfold fmW at hc
  obtain ⟨k, hk, rfl⟩ := List.mem_map.mp hc
  have h := fmCh_in mode k (fmA.getD k (0, [])).2
  have hk := List.mem_range.mp hk
  have : ∀ k < 10, ∀ c ∈ (fmA.getD k (0, [])).2.map (fun y => y.2.2) ++ [63, 45], c ∈ [108, 115, 45, 98, 100, 99, 112, 114, 119, 83, 120, 116, 84, 63] := by decide
  exact this k hk _ h
theorem nmR_plain {k : Nat} {r : FileR} (hk : k < 5) (h : FileOk k r) : plW (nmR k r) := fun c hc => by
  unfold nmR at hc
  rcases List.mem_append.mp hc with hc | hc
  · rcases List.mem_append.mp hc with hc | hc
    · have := fmW_plain _ c hc
      have h2 : ∀ c ∈ [108, 115, 45, 98, 100, 99, 112, 114, 119, 83, 120, 116, 84, 63], ([10, 9, 13, 32, 34, 92].contains c) = false := by decide
      exact h2 c this
    · rw [List.mem_singleton.mp hc]
      have h2 : ∀ k < 5, ([10, 9, 13, 32, 34, 92].contains (48 + k)) = false := by decide
      exact h2 k hk
  · obtain ⟨j, hj, rfl⟩ := List.mem_map.mp hc
    have := h.2.2.2.2 j hj
    have h2 : ∀ k < 5, ([10, 9, 13, 32, 34, 92].contains (48 + k)) = false := by decide
    exact h2 _ (by omega)
noncomputable def toldW (rs : List FileR) (T : Int) : List Word := (ordW T 5).map (nmW rs)
noncomputable def textW (rs : List FileR) (T : Int) : Word := ((ordW T 5).map (wrW rs)).flatten
theorem drop_app {t x y : Word} {p : Nat} (h : t.drop p = x ++ y) : t.drop (p + x.length) = y := by
  rw [← List.drop_drop, h, List.drop_append, List.drop_length, Nat.sub_self]; rfl
section
variable {G : Gr} {w : World} {l : List Ent} {n : Nat} {KV : Pt → List Ent → Prop}
theorem l_told {la : LwA} {lb : LwB} {a : LexA} {rs : List FileR} {T : Int} {t : Word} {env : Env} {KF : Fl → List Ent → Prop} (B : Bx G w 20) (en : En env la.L f304.scope (lwC la)) (hrl : rs.length = 5) (hrf : ∀ k r, rs[k]? = some r → FileOk k r) (ht : t = textW rs T) (hz : t.length ≤ 100000)
    (h : ∀ ta, WF B (lw4 la lb a t t.length rs T none none (some (.ref ta)) [] ((ta, lst ((toldW rs T).map Pt.str)) :: l)) (execs ((fBody st44).drop 8) env) KF) : WF B (lw4 la lb a t 0 rs T none none none [] l) (execs ((fBody st44).drop 7) env) KF := by
  unfold lw4 lexL lexB lexR lwL
  refine k_AsgComp en (by kernel_rfl) ?_
  refine k_ListComp [("lex", la.alx)] en rfl (by kernel_rfl) ?_
  refine k_name 19 1 en rfl rfl (by kernel_rfl) ?_
  refine k_iterL 22 rfl fun it => ?_
  refine ⟨it, rfl, fun acc C env2 en2 => ?_⟩
  have hol := ordW_len T 5
  refine k_comp1 (α := Nat) ((ordW T 5).map pti).length (fun i => li lb.oa i) (fun i p => ((ordW T 5).map pti)[i]? = some p) (fun i p => t.drop p = (((ordW T 5).drop i).map (wrW rs)).flatten ∧ p ≤ t.length)
    (fun i p => (C, nsP [("k", none)]) :: (acc, lst ((((ordW T 5).take i).map (nmW rs)).map Pt.str)) :: lw4 la lb a t p rs T none none none [] l)
    (fun it => src_list fun k' l' h => by obtain ⟨_, _, rfl⟩ := h; repeat first | exact .head | refine Has.tail ?_) ?_ ?_ it 0 ⟨by rw [ht]; rfl, Nat.zero_le _⟩ ?_ (self_li 2 rfl)
  · intro it i p p1 K' hi hp hp1 hK
    obtain ⟨k, hk, rfl⟩ := Option.map_eq_some_iff.mp ((List.getElem?_map (f := pti) (l := ordW T 5) (i := i)).symm.trans hp1)
    have hk5 := ordW_lt T (List.mem_of_getElem? hk)
    obtain ⟨r, hr⟩ : ∃ r, rs[k]? = some r := ⟨_, List.getElem?_eq_getElem (by omega)⟩
    have hok := hrf k r hr
    have hnl := nmR_len hok
    have hpl := nmR_plain hk5 hok
    rw [← nmW_at hr] at hnl hpl
    rw [List.length_map] at hi
    have hdr : (ordW T 5).drop i = k :: (ordW T 5).drop (i + 1) := by rw [List.drop_eq_getElem_cons hi]; rw [List.getElem?_eq_getElem hi] at hk; cases hk; rfl
    have hd1 := hp.1
    rw [hdr, List.map_cons, List.flatten_cons] at hd1
    have hm : (rs.getD k ⟨0, 0, 0, [], 0⟩).man.toNat < 40 := by rw [getD_file hr]; have := hok.2.1; have := hok.2.2.1; omega
    have htl : ((((ordW T 5).take i).map (nmW rs)).map Pt.str).length ≤ 1000 := by rw [List.length_map, List.length_map, List.length_take]; omega
    have hd2 := drop_app hd1
    have hle : p + (wrW rs k).length ≤ t.length := by
      have := congrArg List.length hd1
      rw [List.length_drop, List.length_append] at this
      have := hp.2
      omega
    unfold lw4 lexL lexB lexR lwL
    refine k_asgTN ?_
    refine k_store 1 0 en2 rfl (by kernel_rfl) ?_
    refine wifs_nil ?_
    refine k_imeth0 (f := 169) (fd := f169) ?_
    refine k_cell 17 en2 rfl rfl (by kernel_rfl) ?_
    refine qim 3 4 rfl rfl (by kernel_rfl) (by kernel_rfl) (by kernel_rfl) ?_
    refine WC.im (l' := lexL a t p ((it, li lb.oa (i + 1)) :: (C, nsP [bd "k" (pti k)]) :: (acc, lst ((((ordW T 5).take i).map (nmW rs)).map Pt.str)) :: lwL la none none none none (some (.ref a.X)) (some (.int T)) (some (.ref lb.na)) none (some (.ref lb.fa)) ([bd "script" (.ref lb.sa), bd "order" (.ref lb.oa), bd "text" (.str t), bd "at" (.ref a.at_)] ++ []) ((lb.fa, lst (rs.map fun r => Pt.ref r.ta)) :: (lb.na, lst ((namesW rs 5).map Pt.str)) :: (lb.oa, lst ((ordW T 5).map pti)) :: (FL rs ++ l)))) ?_ (s_token (a := a) (t := t) (p := p) (B.le (by decide)) hz hpl hnl.1 hnl.2 hm hd1 ?_)
    · unfold lexL lexB lexR lwL
      exact imx 26 36224546125580139727459638451396320349415559427 26 rfl (by kernel_rfl)
    unfold lexL lexB lexR lwL
    refine c_append 12 rfl (by first | decide | omega | (simp; omega) | exact Nat.le_of_ble_eq_true rfl | (simp; done)) ?_
    refine hK _ (p + (wrW rs k).length) ⟨hd2, hle⟩ ?_
    rw [take_map hk, List.map_append]
    unfold lw4 lexL lexB lexR lwL
    exact imw 11 1 rfl rfl (Wk.w (.forget .refl)) (imx 26 36224546125580139727459672032431182984989688522 26 rfl (by kernel_rfl))
  · intro p hp
    rw [List.length_map, hol, List.take_of_length_le (Nat.le_of_eq hol)]
    have hp1 := hp.1
    rw [List.drop_eq_nil_of_le (as := ordW T 5) (by rw [List.length_map]; exact Nat.le_refl _)] at hp1
    have hpe : p = t.length := by
      have := congrArg List.length hp1
      rw [List.length_drop] at this
      have h0 : (List.flatten (List.map (wrW rs) [])).length = 0 := rfl
      rw [h0] at this
      have := hp.2
      omega
    rw [hpe]
    unfold lw4 lexL lexB lexR lwL
    refine k_endC (.keep .head .refl) ?_
    refine k_storeC 14 en rfl rfl (by kernel_rfl) ?_
    refine WF.im ?_ (h acc)
    unfold lw4 lexL lexB lexR lwL toldW
    refine imxk 23 127123799475121025088749212879483290267777 24 rfl (by kernel_rfl) ?_
    exact .perm List.perm_middle.symm .refl
  · unfold lw4 lexL lexB lexR lwL
    exact imw 0 1 rfl rfl (Wk.w (.new .refl)) (imx 26 36224546125580139727459686424405226016289329154 26 rfl (by kernel_rfl))
end
theorem toldW_ok {rs : List FileR} {T : Int} (hrl : rs.length = 5) (hrf : ∀ k r, rs[k]? = some r → FileOk k r) : ∀ y ∈ toldW rs T, plW y ∧ 11 ≤ y.length ∧ y.length ≤ 14 ∧ okW y := fun y hy => by
  obtain ⟨k, hk, rfl⟩ := List.mem_map.mp hy
  have hk5 := ordW_lt T hk
  obtain ⟨r, hr⟩ : ∃ r, rs[k]? = some r := ⟨_, List.getElem?_eq_getElem (by omega)⟩
  have hok := hrf k r hr
  rw [nmW_at hr]
  refine ⟨nmR_plain hk5 hok, (nmR_len hok).1, (nmR_len hok).2, ?_⟩
  unfold okW
  refine List.all_eq_true.mpr fun c hc => decide_eq_true ?_
  unfold nmR at hc
  rcases List.mem_append.mp hc with hc | hc
  · rcases List.mem_append.mp hc with hc | hc
    · have := fmW_plain _ c hc
      have h2 : ∀ c ∈ [108, 115, 45, 98, 100, 99, 112, 114, 119, 83, 120, 116, 84, 63], c < 1114112 := by decide
      exact h2 c this
    · rw [List.mem_singleton.mp hc]; omega
  · obtain ⟨j, hj, rfl⟩ := List.mem_map.mp hc
    have := hok.2.2.2.2 j hj
    omega
theorem lnAt_all (t : Word) : lnAt t t.length = 1 + (t.count 10 : Nat) := by unfold lnAt; rw [List.take_length]
theorem eqv_three {i j k : Int} (h : j = k) : PyData.eqv (.tuple (([.str [], .int i, .int j] : List Pt).map pdP)) (.tuple (([.str [], .int i, .int k] : List Pt).map pdP)) = true := by
  subst h
  simp [PyData.eqv, PyData.eqvAll, pdP]
section
variable {G : Gr} {w : World} {l : List Ent} {n : Nat} {KV : Pt → List Ent → Prop}
noncomputable abbrev lw5 (la : LwA) (lb : LwB) (a : LexA) (t : Word) (p : Nat) (ta : Addr) (rs : List FileR) (T : Int) (vpl vsh vc vj : Option Pt) (loc : Loc) (l : List Ent) : List Ent :=
  lexL a t p (lwL la vpl vsh vc (some (.ref ta)) (some (.ref a.X)) (some (.int T)) (some (.ref lb.na)) vj (some (.ref lb.fa)) ([bd "script" (.ref lb.sa), bd "order" (.ref lb.oa), bd "text" (.str t), bd "at" (.ref a.at_)] ++ loc) ((ta, lst ((toldW rs T).map Pt.str)) :: (lb.fa, lst (rs.map fun r => Pt.ref r.ta)) :: (lb.na, lst ((namesW rs 5).map Pt.str)) :: (lb.oa, lst ((ordW T 5).map pti)) :: (FL rs ++ l)))
theorem l_check1 {la : LwA} {lb : LwB} {a : LexA} {ta : Addr} {rs : List FileR} {T : Int} {t : Word} {env : Env} {KF : Fl → List Ent → Prop} (B : Bx G w 20) (en : En env la.L f304.scope (lwC la)) (hrl : rs.length = 5) (hrf : ∀ k r, rs[k]? = some r → FileOk k r)
    (h : WF B (lw5 la lb a t t.length ta rs T none none none none [] l) (execs ((fBody st44).drop 9) env) KF) : WF B (lw4 la lb a t t.length rs T none none (some (.ref ta)) [] ((ta, lst ((toldW rs T).map Pt.str)) :: l)) (execs ((fBody st44).drop 8) env) KF := by
  refine WF.im (l' := lw5 la lb a t t.length ta rs T none none none none [] l) ?_ ?_
  · refine Im.trans (imTl (.perm List.perm_middle .refl) [_, _, _, _, _, _, _, _, _, _, _, _, _, _, _, _, _, _, _, _, _, _, _]) ?_
    unfold lw5 lexL lexB lexR lwL
    exact imx 24 7781948421902226723809792900327214536204352 24 rfl (by kernel_rfl)
  have hol := ordW_len T 5
  have hok := toldW_ok (T := T) hrl hrf
  have hfl : ((toldW rs T).map Pt.str).all flat = true := flat_strs fun y hy => (hok y hy).2.2.2
  unfold lw5 lexL lexB lexR lwL at h ⊢
  refine k_If ?_
  refine k_tCompare ?_
  refine k_cell 13 en rfl rfl (by kernel_rfl) ?_
  refine k_ListComp [("names", la.anm)] en rfl (by kernel_rfl) ?_
  refine k_name 19 1 en rfl rfl (by kernel_rfl) ?_
  refine k_iterL 23 rfl fun it => ?_
  refine ⟨it, rfl, fun acc C env2 en2 => ?_⟩
  refine k_comp1 (α := Unit) ((ordW T 5).map pti).length (fun i => li lb.oa i) (fun i p => ((ordW T 5).map pti)[i]? = some p) (fun _ _ => True)
    (fun i p => (C, nsP [("k", none)]) :: (acc, lst ((((ordW T 5).take i).map (nmW rs)).map Pt.str)) :: lw5 la lb a t t.length ta rs T none none none none [] l)
    (fun it => src_list fun k' l' h => by obtain ⟨_, _, rfl⟩ := h; repeat first | exact .head | refine Has.tail ?_) ?_ ?_ it () trivial ?_ (self_li 2 rfl)
  · intro it i _ p1 K' hi _ hp1 hK
    obtain ⟨k, hk, rfl⟩ := Option.map_eq_some_iff.mp ((List.getElem?_map (f := pti) (l := ordW T 5) (i := i)).symm.trans hp1)
    have hk5 := ordW_lt T (List.mem_of_getElem? hk)
    have hv2 := names_at (rs := rs) hk5
    have htl : ((((ordW T 5).take i).map (nmW rs)).map Pt.str).length ≤ 1000 := by rw [List.length_map, List.length_map, List.length_take]; omega
    unfold lw5 lexL lexB lexR lwL
    refine k_asgTN ?_
    refine k_store 1 0 en2 rfl (by kernel_rfl) ?_
    refine wifs_nil ?_
    refine k_Subscript ?_
    refine k_cell 19 en2 rfl rfl (by kernel_rfl) ?_
    refine k_name 1 0 en2 rfl rfl (by kernel_rfl) ?_
    refine k_get (.ofL 25 rfl) (by omega) (by omega) (by assumption) ?_
    refine c_append 2 rfl (by first | decide | omega | (simp; omega) | exact Nat.le_of_ble_eq_true rfl | (simp; done)) ?_
    refine hK _ () trivial ?_
    rw [take_map hk, List.map_append]
    unfold lw5 lexL lexB lexR lwL
    exact imw 1 1 rfl rfl (Wk.w (.forget .refl)) (imx 27 2411164706788297381808447539588365132957179715648 27 rfl (by kernel_rfl))
  · intro _ _
    rw [List.length_map, hol, List.take_of_length_le (Nat.le_of_eq hol)]
    unfold lw5 lexL lexB lexR lwL
    refine k_endC (.keep .head .refl) ?_
    rw [show (ordW T 5).map (nmW rs) = toldW rs T from rfl]
    refine k_neD (RdP.lst 21 rfl hfl) (RdP.lst 0 rfl hfl) (shaped_lst hfl) (shaped_lst hfl) ?_
    have e1 : PyData.eqv (.list (((toldW rs T).map Pt.str).map pdP)) (.list (((toldW rs T).map Pt.str).map pdP)) = true := by
      show PyData.eqvAll _ _ = true
      rw [eqv_strs]; simp
    rw [e1]
    refine k_tb ?_
    refine ⟨fun e => Bool.noConfusion (show false = true from e), fun _ => ?_⟩
    refine k_nil ?_
    refine nx_next ?_
    refine WF.im ?_ h
    exact imx 24 8489903248924104703164643565122618855010433 25 rfl (by kernel_rfl)
  · unfold lw5 lexL lexB lexR lwL
    exact imw 0 1 rfl rfl (Wk.w (.new .refl)) (imx 27 2411164706788297381808447539588365132957179711490 27 rfl (by kernel_rfl))
theorem l_check2 {la : LwA} {lb : LwB} {lx : LexA} {ta : Addr} {rs : List FileR} {T : Int} {t : Word} {env : Env} {KF : Fl → List Ent → Prop} (B : Bx G w 20) (en : En env la.L f304.scope (lwC la)) (hz : t.length ≤ 100000)
    (h : WF B (lw5 la lb lx t t.length ta rs T none none none none [] l) (execs ((fBody st44).drop 10) env) KF) : WF B (lw5 la lb lx t t.length ta rs T none none none none [] l) (execs ((fBody st44).drop 9) env) KF := by
  unfold lw5 at h ⊢
  unfold lexL lexB lexR lwL at h ⊢
  refine k_If ?_
  refine k_tCompare ?_
  refine k_Tuple ?_
  refine k_items_cons ?_
  refine k_imeth0 (f := 169) (fd := f169) ?_
  refine k_cell 14 en rfl rfl (by kernel_rfl) ?_
  refine qim 0 1 rfl rfl (by kernel_rfl) (by kernel_rfl) (by kernel_rfl) ?_
  refine s_tokend (l := lwL la none none none (some (.ref ta)) (some (.ref lx.X)) (some (.int T)) (some (.ref lb.na)) none (some (.ref lb.fa)) ([bd "script" (.ref lb.sa), bd "order" (.ref lb.oa), bd "text" (.str t), bd "at" (.ref lx.at_)] ++ []) ((ta, lst ((toldW rs T).map Pt.str)) :: (lb.fa, lst (rs.map fun r => Pt.ref r.ta)) :: (lb.na, lst ((namesW rs 5).map Pt.str)) :: (lb.oa, lst ((ordW T 5).map pti)) :: (FL rs ++ l))) (B.le (by decide)) hz ?_
  unfold lexL lexB lexR lwL
  have e0 : ([Pt.int (t.length : Nat)] : List Pt)[(0 : Int).toNat]? = some (.int (t.length : Nat)) := rfl
  refine k_items_cons ?_
  refine k_Subscript ?_
  refine k_name 19 3 en rfl rfl (by kernel_rfl) ?_
  refine k_int ?_
  refine k_get (.ofI 9 rfl) (by omega) (by omega) (by assumption) ?_
  refine k_items_cons ?_
  refine k_Attr ?_
  refine k_cell 14 en rfl rfl (by kernel_rfl) ?_
  refine k_getD 0 0 1 rfl rfl rfl (by kernel_rfl) ?_
  refine k_items_nil ?_
  refine ⟨Nat.le_of_ble_eq_true rfl, fun a => ?_⟩
  refine k_Tuple ?_
  refine k_items_cons ?_
  refine k_str [] (by kernel_rfl) ?_
  refine k_items_cons ?_
  refine k_bcall (id := "len") en (by kernel_rfl) (by kernel_rfl) (by kernel_rfl) ?_
  refine k_items_cons ?_
  refine k_name 20 2 en rfl rfl (by kernel_rfl) ?_
  refine k_items_nil ?_
  refine c_slen (by first | decide | omega | (simp; omega) | exact Nat.le_of_ble_eq_true rfl | (simp; done)) ?_
  refine k_items_cons ?_
  refine k_BinOp ?_
  refine k_int ?_
  refine k_sm1 PySem.F.slot_str_count PySem.F.type_str_count ?_
  refine k_name 20 2 en rfl rfl (by kernel_rfl) ?_
  refine ⟨t, rfl, ?_⟩
  refine k_str [10] (by kernel_rfl) ?_
  refine c_count ?_
  refine k_add ?_
  refine k_items_nil ?_
  refine ⟨Nat.le_of_ble_eq_true rfl, fun a => ?_⟩
  refine k_neD (RdP.tup 1 rfl rfl) (RdP.tup 0 rfl rfl) (shaped_tup rfl) (shaped_tup rfl) ?_
  rw [eqv_three (lnAt_all t)]
  refine k_tb ?_
  refine ⟨fun e => Bool.noConfusion (show false = true from e), fun _ => ?_⟩
  refine k_nil ?_
  refine nx_next ?_
  refine WF.im ?_ h
  exact imx 24 8843883331440463800649337505958307132883138 26 rfl (by kernel_rfl)
end
noncomputable def cBody : List Stmt := bodyOf ((fBody st44).getD 10 (.Pass ⟨0, 0, 0, 0⟩))
theorem putK_app {ks : List (Word × Pt)} {y : Word} {p : Pt} (h : ∀ k ∈ ks, k.1 ≠ y) : putK ks y p = ks ++ [(y, p)] := by
  unfold putK
  rw [if_neg]
  intro e
  obtain ⟨k, hk, e⟩ := List.any_eq_true.mp e
  exact h k hk (by simpa using e)
theorem im_in {e : Ent} {l : List Ent} (X Y : List Ent) : Im (e :: (X ++ (Y ++ l))) (X ++ ((Y ++ [e]) ++ l)) := by
  refine .perm ?_ .refl
  refine List.perm_middle.symm.trans ((List.Perm.refl X).append ?_)
  rw [List.append_assoc]
  exact List.perm_middle.symm
theorem take_new {ys : List Word} {i : Nat} {y : Word} (hnd : ys.Nodup) (hy : ys[i]? = some y) (h : y ∈ ys.take i) : False := by
  rw [← List.take_append_drop i ys] at hnd
  obtain ⟨hi, e⟩ := List.getElem?_eq_some_iff.mp hy
  have h2 := (List.nodup_append.mp hnd).2.2 y h y (by rw [List.drop_eq_getElem_cons hi, e]; exact .head _)
  exact h2 rfl
theorem toldW_asc {rs : List FileR} {T : Int} (hrl : rs.length = 5) (hrf : ∀ k r, rs[k]? = some r → FileOk k r) : ∀ y ∈ toldW rs T, asc y = true := fun y hy => by
  obtain ⟨k, hk, rfl⟩ := List.mem_map.mp hy
  have hk5 := ordW_lt T hk
  obtain ⟨r, hr⟩ : ∃ r, rs[k]? = some r := ⟨_, List.getElem?_eq_getElem (by omega)⟩
  have hok := hrf k r hr
  rw [nmW_at hr]
  unfold asc
  refine List.all_eq_true.mpr fun c hc => decide_eq_true ?_
  unfold nmR at hc
  rcases List.mem_append.mp hc with hc | hc
  · rcases List.mem_append.mp hc with hc | hc
    · have := fmW_plain _ c hc
      have h2 : ∀ c ∈ [108, 115, 45, 98, 100, 99, 112, 114, 119, 83, 120, 116, 84, 63], c < 128 := by decide
      exact h2 c this
    · rw [List.mem_singleton.mp hc]; omega
  · obtain ⟨j, hj, rfl⟩ := List.mem_map.mp hc
    have := hok.2.2.2.2 j hj
    omega
noncomputable def blV (bl : Bl) : List (Word × List Word) := bl.map fun x => (x.1, x.2.2)
theorem blV_keys (bl : Bl) : (blV bl).map (·.1) = bl.map (·.1) := by unfold blV; rw [List.map_map]; rfl
section
variable {G : Gr} {w : World} {l : List Ent} {n : Nat} {KV : Pt → List Ent → Prop}
theorem Has.ex {a : Addr} {P : Obj → Prop} : ∀ {l : List Ent}, Has a P l → ∃ l1, Ex (a, P) l l1
  | _, .head => ⟨_, .head⟩
  | _, .tail h => let ⟨_, e⟩ := h.ex; ⟨_, .tail e⟩
theorem s_seenH {ta : Addr} {wd : List Nat} {ws : List (List Nat)} {c : Nat} (B : Bx G w 4) (hT : Has ta (lst (ws.map Pt.str)) l) (hw : 11 ≤ wd.length ∧ wd.length ≤ 14) (hws : ∀ y ∈ ws, 11 ≤ y.length) (hl : ws.length ≤ 5) (hc : c ≤ 2) (hasc : asc wd = true)
    (h : ∀ a, KV (.ref a) ((a, lst ((seenW wd ws c).map Pt.str)) :: l)) : WC B l (.ref 270) [.str wd, .ref ta, .int c] KV := by
  obtain ⟨l1, ex⟩ := hT.ex
  exact WC.im (.keep ex .refl) (WC.post (s_seen B hw hws hl hc hasc fun a => ⟨_, .keep .head (.perm ex.perm.symm .refl), h a⟩))
theorem b_below {la : LwA} {lb : LwB} {lx : LexA} {ta : Addr} {rs : List FileR} {T : Int} {t : Word} {c : Nat} {env : Env} {KF : Fl → List Ent → Prop} {vsh : Option Pt} (B : Bx G w 20) (en : En env la.L f304.scope (lwC la)) (hrl : rs.length = 5) (hrf : ∀ k r, rs[k]? = some r → FileOk k r) (hnd : (toldW rs T).Nodup) (hc : c ≤ 2)
    (h : ∀ ba bl, blV bl = (toldW rs T).map (fun y => (y, seenW y (toldW rs T) c)) → WF B (lw5 la lb lx t t.length ta rs T none vsh (some (.int c)) none [bd "below" (.ref ba), ("stages", none), ("sorter", none), ("k", none)] ((ba, dct w (blD bl)) :: (lvL (bl.map (·.2)) ++ l))) (execs (cBody.drop 1) env) KF) :
    WF B (lw5 la lb lx t t.length ta rs T none vsh (some (.int c)) none [("below", none), ("stages", none), ("sorter", none), ("k", none)] l) (execs cBody env) KF := by
  have htl : (toldW rs T).length = 5 := by unfold toldW; rw [List.length_map, ordW_len]
  have hok := toldW_ok (T := T) hrl hrf
  unfold lw5 lexL lexB lexR lwL
  refine k_AsgDictComp [("told", la.ato), ("c", la.ac)] en rfl (by kernel_rfl) (by kernel_rfl) ?_
  refine k_cell 13 en rfl rfl (by kernel_rfl) ?_
  refine k_iterL 20 rfl fun it => ?_
  refine ⟨it, rfl, fun acc C env2 en2 => ?_⟩
  refine k_compD1 (α := Bl) ((toldW rs T).map Pt.str).length (fun i => li ta i) (fun i p => ((toldW rs T).map Pt.str)[i]? = some p) (fun i bl => blV bl = ((toldW rs T).take i).map fun y => (y, seenW y (toldW rs T) c))
    (fun i bl => (C, nsP [("word", none)]) :: (acc, dct w (blD bl)) :: lw5 la lb lx t t.length ta rs T none vsh (some (.int c)) none [("below", none), ("stages", none), ("sorter", none), ("k", none)] (lvL (bl.map (·.2)) ++ l))
    (fun it => src_list fun k' l' h => by obtain ⟨_, _, rfl⟩ := h; repeat first | exact .head | refine Has.tail ?_) ?_ ?_ it [] rfl ?_ (self_li 2 rfl)
  · intro it i bl p1 K' hi hbl hp1 hK
    obtain ⟨y, hy, rfl⟩ := str_at hp1
    rw [List.length_map] at hi
    have hym := List.mem_of_getElem? hy
    have hoky := hok y hym
    have hbk : bl.map (·.1) = (toldW rs T).take i := by
      rw [← blV_keys, hbl, List.map_map]
      exact (List.map_congr_left fun _ _ => rfl).trans (List.map_id _)
    have hnew : ∀ k ∈ blD bl, k.1 ≠ y := fun k hk e => by
      have h1 : k.1 ∈ bl.map (·.1) := by
        obtain ⟨x, hx, rfl⟩ := List.mem_map.mp hk
        exact List.mem_map.mpr ⟨x, hx, rfl⟩
      rw [hbk, e] at h1
      exact take_new hnd hy h1
    unfold lw5 lexL lexB lexR lwL
    refine k_asgTN ?_
    refine k_store 1 0 en2 rfl (by kernel_rfl) ?_
    refine k_name 1 0 en2 rfl rfl (by kernel_rfl) ?_
    refine ⟨y, rfl, ?_⟩
    refine k_call (f := 270) (fd := f270) en2 (by kernel_rfl) (by kernel_rfl) (by kernel_rfl) ?_
    refine k_items_cons ?_
    refine k_name 1 0 en2 rfl rfl (by kernel_rfl) ?_
    refine k_items_cons ?_
    refine k_cell 16 en2 rfl rfl (by kernel_rfl) ?_
    refine k_items_cons ?_
    refine k_cell 15 en2 rfl rfl (by kernel_rfl) ?_
    refine k_items_nil ?_
    refine s_seenH (ws := toldW rs T) (c := c) (B.le (by decide)) (by repeat first | exact .head | refine Has.tail ?_) ⟨hoky.2.1, hoky.2.2.1⟩ (fun z hz => (hok z hz).2.1) (by omega) hc (toldW_asc hrl hrf y hym) fun sa => ?_
    have hbl5 : (blD bl).length ≤ 1000 := by
      unfold blD
      have := congrArg List.length hbk
      rw [List.length_map, List.length_take] at this
      rw [List.length_map]; omega
    refine ⟨blD bl, 3, rfl, hbl5, ?_⟩
    refine hK _ (bl ++ [(y, sa, seenW y (toldW rs T) c)]) ?_ ?_
    · rw [take_map hy, ← hbl]
      unfold blV
      rw [List.map_append]; rfl
    · rw [putK_app hnew]
      have e1 : blD bl ++ [(y, Pt.ref sa)] = blD (bl ++ [(y, sa, seenW y (toldW rs T) c)]) := by unfold blD; rw [List.map_append]; rfl
      have e2 : lvL ((bl ++ [(y, sa, seenW y (toldW rs T) c)]).map (·.2)) = lvL (bl.map (·.2)) ++ [(sa, lst ((seenW y (toldW rs T) c).map Pt.str))] := by unfold lvL; rw [List.map_append, List.map_append]; rfl
      rw [e1, e2]
      unfold lw5 lexL lexB lexR lwL
      refine imw 2 1 rfl rfl (Wk.w (.forget .refl)) (imxk 27 2503958461539465821059475148014795800871842099329 28 rfl (by kernel_rfl) ?_)
      exact im_in _ _
  · intro bl hbl
    have hl5 : ((toldW rs T).map Pt.str).length = (toldW rs T).length := List.length_map _
    rw [hl5, List.take_length] at hbl
    unfold lw5 lexL lexB lexR lwL
    refine k_store 21 4 en rfl (by kernel_rfl) ?_
    refine k_endC (.keep .head .refl) ?_
    refine WF.im ?_ (h acc bl hbl)
    unfold lw5 lexL lexB lexR lwL
    refine imxk 24 8489903248924104703164643565122618855010433 25 rfl (by kernel_rfl) ?_
    exact .perm List.perm_middle.symm .refl
  · unfold lw5 lexL lexB lexR lwL
    exact imw 0 1 rfl rfl (Wk.w (.new .refl)) (imx 27 2411164706788297381808447539588365132957179711490 27 rfl (by kernel_rfl))
end
theorem im_out {l : List Ent} (P1 P2 F EY : List Ent) : Im (P1 ++ (P2 ++ (F ++ (EY ++ l)))) (P1 ++ (EY ++ (P2 ++ (F ++ l)))) :=
  imTl (.perm (((List.Perm.refl P2).append (List.perm_append_comm_assoc F EY l)).trans (List.perm_append_comm_assoc P2 EY _)) .refl) P1
theorem im_back {l : List Ent} {a b e : Ent} (P1 P2 F TU LV Y : List Ent) : Im (a :: (TU ++ (b :: (LV ++ (P1 ++ (e :: (Y ++ (P2 ++ (F ++ l)))))))))
    (P1 ++ (P2 ++ (F ++ (a :: (TU ++ l))))) := by
  refine Im.trans (imTl (.drop (im_dropL LV)) (a :: TU)) ?_
  refine Im.trans (imTl (imTl (.drop (im_dropL Y)) P1) (a :: TU)) ?_
  refine .perm (m := P1 ++ (P2 ++ (F ++ ((a :: TU) ++ l)))) ?_ .refl
  refine (List.perm_append_comm_assoc (a :: TU) P1 _).trans ((List.Perm.refl P1).append ?_)
  refine (List.perm_append_comm_assoc (a :: TU) P2 _).trans ((List.Perm.refl P2).append ?_)
  exact List.perm_append_comm_assoc (a :: TU) F _
section
variable {G : Gr} {w : World} {l : List Ent} {n : Nat} {KV : Pt → List Ent → Prop}
theorem b_stages {la : LwA} {lb : LwB} {lx : LexA} {ta ba : Addr} {rs : List FileR} {T : Int} {t : Word} {c N : Nat} {bl : Bl} {env : Env} {KF : Fl → List Ent → Prop} {vsh : Option Pt} (B : Bx G w 20) (en : En env la.L f304.scope (lwC la))
    (hN9 : N ≤ 100) (hE : iterW bl N = []) (hE2 : ∀ k < N, iterW bl k ≠ []) (hz : ∀ k, (iterW bl k).length ≤ 1000) (hb : bl.length ≤ 5) (hnd : (bl.map (·.1)).Nodup) (hk0 : ∀ x ∈ bl, ∀ y ∈ x.2.2, y ∈ bl.map (·.1)) (hc : ∀ x ∈ bl, x.2.2.length ≤ 1000)
    (h : ∀ sg ts, ts.map (·.2) = lastW (levelsW bl N) → WF B (lw5 la lb lx t t.length ta rs T none vsh (some (.int c)) none [("below", none), bd "stages" (.ref sg), ("sorter", none), ("k", none)] ((sg, lst (rfs ts)) :: (tuL ts ++ l))) (execs (cBody.drop 2) env) KF) :
    WF B (lw5 la lb lx t t.length ta rs T none vsh (some (.int c)) none [bd "below" (.ref ba), ("stages", none), ("sorter", none), ("k", none)] ((ba, dct w (blD bl)) :: (lvL (bl.map (·.2)) ++ l))) (execs (cBody.drop 1) env) KF := by
  unfold lw5 lexL lexB lexR lwL
  refine k_Assign ?_
  refine k_call (f := 282) (fd := f282) en (by kernel_rfl) (by kernel_rfl) (by kernel_rfl) ?_
  refine k_items_cons ?_
  refine k_call (f := 275) (fd := f275) en (by kernel_rfl) (by kernel_rfl) (by kernel_rfl) ?_
  refine k_items_cons ?_
  refine k_cell 14 en rfl rfl (by kernel_rfl) ?_
  refine k_items_cons ?_
  refine k_name 19 4 en rfl rfl (by kernel_rfl) ?_
  refine k_items_nil ?_
  refine WC.im (im_out [_, _, _] [_, _, _, _, _, _, _, _, _, _, _, _, _, _, _, _, _, _, _, _, _] (FL rs) (_ :: lvL (bl.map (·.2)))) (s_levels (N := N) (B.le (by decide)) hN9 hE hE2 hz hb hnd hk0 hc fun le lvs hlv => ?_)
  refine k_items_nil ?_
  have hlen : ∀ x ∈ lvs, x.2 ∈ levelsW bl N := fun x hx => by rw [← hlv]; exact List.mem_map.mpr ⟨x, hx, rfl⟩
  refine s_last (B.le (by decide)) (fun x hx => ?_) ?_ fun sg ts hts => ?_
  · obtain ⟨k, _, e⟩ := List.mem_map.mp (hlen x hx)
    rw [← e]; exact hz k
  · have := congrArg List.length hlv
    unfold levelsW at this
    rw [List.length_map, List.length_map, List.length_range] at this
    omega
  rw [hlv] at hts
  refine WU1.im (im_back [_, _, _] [_, _, _, _, _, _, _, _, _, _, _, _, _, _, _, _, _, _, _, _, _] (FL rs) (tuL ts) (lvL lvs) (lvL (bl.map (·.2)))) ?_
  refine k_store 19 5 en rfl (by kernel_rfl) ?_
  refine WF.im ?_ (h sg ts hts)
  unfold lw5 lexL lexB lexR lwL
  exact imw 19 19 rfl rfl (Wk.w (.keep (.keep (.keep (.keep (.forget .refl)))))) (imx 24 8135923166407745605679949624286930577137728 24 rfl (by kernel_rfl))
end
section
variable {G : Gr} {w : World} {l : List Ent} {n : Nat} {KV : Pt → List Ent → Prop}
theorem s_showsH {mode : Int} {ha : Addr} {hs : List Int} {c : Nat} (B : Bx G w 4) (hT : Has ha (lst (hs.map Pt.int)) l) (hm : 0 ≤ mode) (hl : hs.length ≤ 3) (hc : c ≤ 2)
    (h : ∀ a, KV (.ref a) ((a, lst ((showsP mode hs c).map Pt.int)) :: l)) : WC B l (.ref 287) [.int mode, .ref ha, .int c] KV := by
  obtain ⟨l1, ex⟩ := hT.ex
  exact WC.im (.keep ex .refl) (WC.post (s_shows B hm hl hc fun a => ⟨_, .keep .head (.perm ex.perm.symm .refl), h a⟩))
noncomputable def shL (xs : List (Addr × List Int)) : List Ent := xs.map fun x => (x.1, lst (x.2.map Pt.int))
noncomputable def shR (xs : List (Addr × List Int)) : List Pt := xs.map fun x => Pt.ref x.1
noncomputable def shV (rs : List FileR) (c : Nat) : List (List Int) := rs.map fun r => showsP r.mode r.held c
theorem b_shows {la : LwA} {lb : LwB} {lx : LexA} {ta sg : Addr} {rs : List FileR} {T : Int} {t : Word} {c : Nat} {ts : List (Addr × List Word)} {env : Env} {KF : Fl → List Ent → Prop} {vsh : Option Pt} (B : Bx G w 20) (en : En env la.L f304.scope (lwC la)) (hrl : rs.length = 5) (hrf : ∀ k r, rs[k]? = some r → FileOk k r) (hc : c ≤ 2)
    (h : ∀ sh xs, xs.map (·.2) = shV rs c → WF B (lw5 la lb lx t t.length ta rs T none (some (.ref sh)) (some (.int c)) none [("below", none), bd "stages" (.ref sg), ("sorter", none), ("k", none)] ((sh, lst (shR xs)) :: (shL xs ++ ((sg, lst (rfs ts)) :: (tuL ts ++ l))))) (execs (cBody.drop 3) env) KF) :
    WF B (lw5 la lb lx t t.length ta rs T none vsh (some (.int c)) none [("below", none), bd "stages" (.ref sg), ("sorter", none), ("k", none)] ((sg, lst (rfs ts)) :: (tuL ts ++ l))) (execs (cBody.drop 2) env) KF := by
  have ⟨l0, hl0⟩ : ∃ l0, l0 = (sg, lst (rfs ts)) :: (tuL ts ++ l) := ⟨_, rfl⟩
  rw [← hl0] at h ⊢
  unfold lw5 lexL lexB lexR lwL
  refine k_AsgComp en (by kernel_rfl) ?_
  refine k_ListComp [("c", la.ac)] en rfl (by kernel_rfl) ?_
  refine k_cell 18 en rfl rfl (by kernel_rfl) ?_
  refine k_iterL 21 rfl fun it => ?_
  refine ⟨it, rfl, fun acc C env2 en2 => ?_⟩
  refine k_comp1 (α := List (Addr × List Int)) (rs.map fun r => Pt.ref r.ta).length (fun i => li lb.fa i) (fun i p => (rs.map fun r => Pt.ref r.ta)[i]? = some p) (fun i xs => xs.map (·.2) = (rs.take i).map fun r => showsP r.mode r.held c)
    (fun i xs => (C, nsP [("mode", none), ("held", none), ("manner", none)]) :: (acc, lst (shR xs)) :: lw5 la lb lx t t.length ta rs T none vsh (some (.int c)) none [("below", none), bd "stages" (.ref sg), ("sorter", none), ("k", none)] (shL xs ++ l0))
    (fun it => src_list fun k' l' h => by obtain ⟨_, _, rfl⟩ := h; exact Has.of (i := 23) rfl) ?_ ?_ it [] rfl ?_ (self_li 2 rfl)
  · intro it i xs p1 K' hi hxs hp1 hK
    rw [List.length_map] at hi
    obtain ⟨r, hr, rfl⟩ := Option.map_eq_some_iff.mp ((List.getElem?_map (f := fun r : FileR => Pt.ref r.ta) (l := rs) (i := i)).symm.trans hp1)
    obtain ⟨h1, h2, h3, h4, h5⟩ := hrf i r hr
    have hhl : r.held.length ≤ 3 := by rw [h4]; split <;> decide
    have hxl : (shR xs).length ≤ 1000 := by
      have := congrArg List.length hxs
      rw [List.length_map, List.length_map, List.length_take] at this
      unfold shR
      rw [List.length_map]; omega
    unfold lw5 lexL lexB lexR lwL
    refine k_asgPl (f0 := .none) (cls := "list_iterator") .head li_rec rfl (k_asgTup (us := [.int r.mode, .ref r.ha, .int r.man]) (by repeat first | exact has_ta hr _ | refine Has.tail ?_) rfl rfl ?_)
    refine k_asgN ?_
    refine k_store 1 0 en2 rfl (by kernel_rfl) ?_
    refine k_asgN ?_
    refine k_store 1 1 en2 rfl (by kernel_rfl) ?_
    refine k_asgN ?_
    refine k_store 1 2 en2 rfl (by kernel_rfl) ?_
    refine wio_nil ?_
    refine wifs_nil ?_
    refine k_call (f := 287) (fd := f287) en2 (by kernel_rfl) (by kernel_rfl) (by kernel_rfl) ?_
    refine k_items_cons ?_
    refine k_name 1 0 en2 rfl rfl (by kernel_rfl) ?_
    refine k_items_cons ?_
    refine k_name 1 1 en2 rfl rfl (by kernel_rfl) ?_
    refine k_items_cons ?_
    refine k_cell 15 en2 rfl rfl (by kernel_rfl) ?_
    refine k_items_nil ?_
    refine s_showsH (mode := r.mode) (hs := r.held) (c := c) (B.le (by decide)) (by repeat first | exact has_ha hr _ | refine Has.tail ?_) h1 hhl hc fun sa => ?_
    refine c_append 3 rfl (by first | decide | omega | (simp; omega) | exact Nat.le_of_ble_eq_true rfl | (simp; done)) ?_
    refine hK _ (xs ++ [(sa, showsP r.mode r.held c)]) ?_ ?_
    · rw [take_map hr, ← hxs, List.map_append]; rfl
    · rw [show shR (xs ++ [(sa, showsP r.mode r.held c)]) = shR xs ++ [Pt.ref sa] by unfold shR; rw [List.map_append]; rfl, show shL (xs ++ [(sa, showsP r.mode r.held c)]) = shL xs ++ [(sa, lst ((showsP r.mode r.held c).map Pt.int))] by unfold shL; rw [List.map_append]; rfl]
      unfold lw5 lexL lexB lexR lwL
      refine imw 2 1 rfl rfl (Wk.w (.forget (.forget (.forget .refl)))) (imxk 27 2503958461539465821059475148014795800871842099329 28 rfl (by kernel_rfl) ?_)
      exact im_in (FL rs) (shL xs)
  · intro xs hxs
    rw [List.length_map, List.take_length] at hxs
    unfold lw5 lexL lexB lexR lwL
    refine k_endC (.keep .head .refl) ?_
    refine k_storeC 12 en rfl rfl (by kernel_rfl) ?_
    refine WF.im ?_ (h acc xs hxs)
    unfold lw5 lexL lexB lexR lwL
    refine imxk 24 8489903248924104703164643565122618855010433 25 rfl (by kernel_rfl) ?_
    exact .perm List.perm_middle.symm .refl
  · unfold lw5 lexL lexB lexR lwL
    exact imw 0 1 rfl rfl (Wk.w (.new (.new (.new .refl)))) (imx 27 2411164706788297381808447539588365132957179711490 27 rfl (by kernel_rfl))
end
theorem pm_o3 {l : List Ent} {i a b c : Ent} (P2 F Y : List Ent) : (i :: a :: b :: c :: (P2 ++ (F ++ (Y ++ l)))).Perm (a :: b :: c :: (Y ++ (i :: (P2 ++ (F ++ l))))) := by
  have h1 : (P2 ++ (F ++ (Y ++ l))).Perm (Y ++ (P2 ++ (F ++ l))) := ((List.Perm.refl P2).append (List.perm_append_comm_assoc F Y l)).trans (List.perm_append_comm_assoc P2 Y _)
  refine (List.Perm.swap ..).trans (.cons _ ?_)
  refine (List.Perm.swap ..).trans (.cons _ ?_)
  refine (List.Perm.swap ..).trans (.cons _ ?_)
  exact (h1.cons i).trans List.perm_middle.symm
noncomputable def ndV (d : Nd) : Word × Int × List Word := (d.name, d.np, d.succ)
section
variable {G : Gr} {w : World} {l : List Ent} {n : Nat} {KV : Pt → List Ent → Prop}
noncomputable abbrev adL (w : World) (la : LwA) (lb : LwB) (lx : LexA) (t : Word) (ta sh sg S D n2 : Addr) (rs : List FileR) (T : Int) (xs : List (Addr × List Int)) (c : Nat) (vpl vj : Option Pt) (ds : List Nd) (l1 : List Ent) : List Ent :=
  (S, inst 137 D []) :: (D, dicP (sorD n2 .none 0 0)) :: (n2, dct w (places ds)) :: (sh, lst (shR xs)) :: lw5 la lb lx t t.length ta rs T vpl (some (.ref sh)) (some (.int c)) vj [("below", none), bd "stages" (.ref sg), bd "sorter" (.ref S), ("k", none)] (ds.flatMap nodeL ++ (shL xs ++ l1))
theorem b_new {la : LwA} {lb : LwB} {lx : LexA} {ta sg sh : Addr} {rs : List FileR} {T : Int} {t : Word} {c : Nat} {xs : List (Addr × List Int)} {env : Env} {KF : Fl → List Ent → Prop} (B : Bx G w 20) (en : En env la.L f304.scope (lwC la))
    (h : ∀ S D n2, WF B (adL w la lb lx t ta sh sg S D n2 rs T xs c none none [] l) (execs (cBody.drop 4) env) KF) :
    WF B (lw5 la lb lx t t.length ta rs T none (some (.ref sh)) (some (.int c)) none [("below", none), bd "stages" (.ref sg), ("sorter", none), ("k", none)] ((sh, lst (shR xs)) :: (shL xs ++ l))) (execs (cBody.drop 3) env) KF := by
  refine WF.im (l' := (sh, lst (shR xs)) :: lw5 la lb lx t t.length ta rs T none (some (.ref sh)) (some (.int c)) none [("below", none), bd "stages" (.ref sg), ("sorter", none), ("k", none)] (shL xs ++ l)) ?_ ?_
  · refine Im.trans (imTl (.perm List.perm_middle .refl) [_, _, _, _, _, _, _, _, _, _, _, _, _, _, _, _, _, _, _, _, _, _, _, _]) ?_
    unfold lw5 lexL lexB lexR lwL
    exact imx 25 520699082650095718763516775954363556936814616 25 rfl (by kernel_rfl)
  unfold lw5 lexL lexB lexR lwL
  refine k_Assign ?_
  refine k_ccall0 (C := 137) en (by kernel_rfl) (by kernel_rfl) (by kernel_rfl) ?_
  refine s_tmake (B.le (by decide)) fun S D n2 => ?_
  refine k_store 23 6 en rfl (by kernel_rfl) ?_
  refine WF.im ?_ (h S D n2)
  unfold adL lw5 lexL lexB lexR lwL
  exact imx 28 160253341538525812547806409472946931255797894357056 28 rfl (by kernel_rfl)
theorem b_adds {la : LwA} {lb : LwB} {lx : LexA} {ta sg sh S D n2 : Addr} {rs : List FileR} {T : Int} {t : Word} {c : Nat} {xs : List (Addr × List Int)} {env : Env} {KF : Fl → List Ent → Prop} (B : Bx G w 20) (en : En env la.L f304.scope (lwC la)) (hnd : (toldW rs T).Nodup)
    (h : ∀ ds, ds.map ndV = (toldW rs T).map (fun y => (y, 0, [])) → WF B (adL w la lb lx t ta sh sg S D n2 rs T xs c none none ds l) (execs (cBody.drop 5) env) KF) :
    WF B (adL w la lb lx t ta sh sg S D n2 rs T xs c none none [] l) (execs (cBody.drop 4) env) KF := by
  have hol := ordW_len T 5
  refine k_forQ ?_
  unfold adL lw5 lexL lexB lexR lwL
  refine k_name 23 1 en rfl rfl (by kernel_rfl) ?_
  refine k_iterL 27 rfl fun it => ?_
  refine ⟨List Nd, ((ordW T 5).map pti).length, fun i => li lb.oa i, fun i p => ((ordW T 5).map pti)[i]? = some p, fun i ds => ds.map ndV = ((toldW rs T).take i).map fun y => (y, 0, []),
    fun i ds => adL w la lb lx t ta sh sg S D n2 rs T xs c none none ds l, ⟨it, [], rfl, rfl, ?_⟩, fun it => src_list fun k' l' h => by obtain ⟨_, _, rfl⟩ := h; exact Has.of (i := 27) rfl, ?_, ?_⟩
  · unfold adL lw5 lexL lexB lexR lwL
    exact imx 29 10636297077926437930231819290383263616149522362409024 29 rfl (by kernel_rfl)
  · intro it i ds p KF1 hi hds hp1 hN1 _ _
    obtain ⟨k, hk, rfl⟩ := Option.map_eq_some_iff.mp ((List.getElem?_map (f := pti) (l := ordW T 5) (i := i)).symm.trans hp1)
    have hk5 := ordW_lt T (List.mem_of_getElem? hk)
    have hv2 := names_at (rs := rs) hk5
    have hy : (toldW rs T)[i]? = some (nmW rs k) := by unfold toldW; rw [List.getElem?_map, hk]; rfl
    have hyn : nmW rs k ∉ names ds := fun hm => by
      have e1 : names ds = (toldW rs T).take i := by
        have := congrArg (List.map (·.1)) hds
        rw [List.map_map, List.map_map] at this
        exact this.trans ((List.map_congr_left fun _ _ => rfl).trans (List.map_id _))
      rw [e1] at hm
      exact take_new hnd hy hm
    have hdl : ds.length ≤ 1000 := by
      have := congrArg List.length hds
      rw [List.length_map, List.length_map, List.length_take] at this
      have : i < 5 := by rw [List.length_map] at hi; omega
      omega
    try dsimp only
    unfold adL lw5 lexL lexB lexR lwL
    refine k_asgN ?_
    refine k_store 24 7 en rfl (by kernel_rfl) ?_
    refine k_Expr en (by kernel_rfl) ?_
    refine k_imeth (f := 87) (fd := f87) ?_
    refine k_name 24 6 en rfl rfl (by kernel_rfl) ?_
    refine qim 1 2 rfl rfl (by kernel_rfl) (by kernel_rfl) (by kernel_rfl) ?_
    refine k_items_cons ?_
    refine k_Subscript ?_
    refine k_cell 21 en rfl rfl (by kernel_rfl) ?_
    refine k_name 24 7 en rfl rfl (by kernel_rfl) ?_
    refine k_get (.ofL 27 rfl) (by omega) (by omega) (by assumption) ?_
    refine k_items_nil ?_
    refine WC.im (.perm (pm_o3 [_, _, _, _, _, _, _, _, _, _, _, _, _, _, _, _, _, _, _, _, _, _, _, _, _] (FL rs) (ds.flatMap nodeL)) .refl) (WC.post (s_addnew (B.le (by decide)) hdl hyn fun a dx sa => ⟨_, .perm (pm_o3 [_, _, _, _, _, _, _, _, _, _, _, _, _, _, _, _, _, _, _, _, _, _, _, _, _] (FL rs) ((ds ++ [Nd.mk a dx sa (nmW rs k) 0 []]).flatMap nodeL)).symm .refl, ?_⟩).wc)
    refine ⟨rfl, ?_⟩
    refine k_nil ?_
    refine (hN1 _ (ds ++ [Nd.mk a dx sa (nmW rs k) 0 []]) ?_ ?_).1
    · try dsimp only
      rw [take_map hy, ← hds, List.map_append]; rfl
    · try dsimp only
      unfold adL lw5 lexL lexB lexR lwL
      exact imw 24 24 rfl rfl (Wk.w (.keep (.keep (.keep (.keep (.keep (.keep (.keep (.forget .refl))))))))) (imx 29 10636297077926437930231819290383263616149522362409024 29 rfl (by kernel_rfl))
  · intro ds hds
    rw [List.length_map, hol] at hds
    rw [List.take_of_length_le (by unfold toldW; rw [List.length_map, hol]; exact Nat.le_refl _)] at hds
    try dsimp only
    refine k_nil ?_
    refine nx_next ?_
    exact WF.im (by exact imx 28 160253341538525812547806409472946931255797894357056 28 rfl (by kernel_rfl)) (h ds hds)
end
noncomputable def ld : List Word → List Word
  | [] => []
  | z :: r => if z ∈ r then ld r else z :: ld r
noncomputable def hitF (deg : Word → Nat) : List Word → List Word → List Word
  | _, [] => []
  | p, z :: r => (if (p ++ [z]).count z = deg z then [z] else []) ++ hitF deg (p ++ [z]) r
theorem mem_ld {y : Word} : ∀ {X : List Word}, y ∈ ld X ↔ y ∈ X
  | [] => .rfl
  | z :: r => by
    unfold ld
    split
    · next h => rw [mem_ld, List.mem_cons]; exact ⟨.inr, fun q => q.elim (fun e => e ▸ h) id⟩
    · rw [List.mem_cons, List.mem_cons, mem_ld]
theorem ld_nodup : ∀ X : List Word, (ld X).Nodup
  | [] => List.nodup_nil
  | z :: r => by
    unfold ld
    split
    · exact ld_nodup r
    · next h => exact List.nodup_cons.mpr ⟨fun q => h (mem_ld.mp q), ld_nodup r⟩
theorem ld_app : ∀ a b : List Word, ld (a ++ b) = ld (a.filter fun z => !(b.contains z)) ++ ld b
  | [], b => rfl
  | z :: a, b => by
    rw [List.cons_append, List.filter_cons]
    cases e : b.contains z with
    | true =>
      have hz : z ∈ a ++ b := List.mem_append_right _ (List.contains_iff_mem.mp e)
      rw [Bool.not_true, if_neg (by decide), ← ld_app a b]
      show (if z ∈ a ++ b then _ else _) = _
      rw [if_pos hz]
    | false =>
      have hb : z ∉ b := fun q => by rw [List.contains_iff_mem.mpr q] at e; cases e
      rw [Bool.not_false, if_pos rfl]
      show (if z ∈ a ++ b then _ else _) = (if z ∈ a.filter _ then _ else _) ++ _
      rw [ld_app a b]
      by_cases q : z ∈ a
      · rw [if_pos (List.mem_append_left _ q), if_pos (List.mem_filter.mpr ⟨q, by rw [e]; rfl⟩)]
      · rw [if_neg (fun h => (List.mem_append.mp h).elim q hb), if_neg (fun h => q (List.mem_filter.mp h).1), List.cons_append]
theorem ld_id {a : List Word} (h : a.Nodup) : ld a = a := by
  induction a with
  | nil => rfl
  | cons z a ih =>
    obtain ⟨h1, h2⟩ := List.nodup_cons.mp h
    show (if z ∈ a then _ else _) = _
    rw [if_neg h1, ih h2]
theorem ld_apart {a b : List Word} (h : a.Nodup) (hb : ∀ z ∈ a, z ∉ b) : ld (a ++ b) = a ++ ld b := by
  rw [ld_app, List.filter_eq_self.mpr fun z hz => by
    cases e : b.contains z with
    | false => rfl
    | true => exact absurd (List.contains_iff_mem.mp e) (hb z hz), ld_id h]
theorem ld_left {a b : List Word} (h : ∀ z ∈ a, z ∈ b) : ld (a ++ b) = ld b := by
  rw [ld_app, List.filter_eq_nil_iff.mpr fun z hz => by rw [List.contains_iff_mem.mpr (h z hz)]; decide]
  rfl
theorem ld_flat (g : Word → List Word) : ∀ X : List Word, ld (X.flatMap g) = ld ((ld X).flatMap g)
  | [] => rfl
  | z :: r => by
    show _ = ld ((if z ∈ r then ld r else z :: ld r).flatMap g)
    rw [List.flatMap_cons]
    split
    · next h => rw [ld_left fun y hy => List.mem_flatMap.mpr ⟨z, h, hy⟩]; exact ld_flat g r
    · rw [List.flatMap_cons, ld_app, ld_app, ← ld_flat g r]
      congr 2
      refine List.filter_congr fun y _ => ?_
      congr 1
      rw [Bool.eq_iff_iff, List.contains_iff_mem, List.contains_iff_mem, List.mem_flatMap, List.mem_flatMap]
      exact ⟨fun ⟨x, h1, h2⟩ => ⟨x, mem_ld.mpr h1, h2⟩, fun ⟨x, h1, h2⟩ => ⟨x, mem_ld.mp h1, h2⟩⟩
theorem hit_app (deg : Word → Nat) : ∀ (p a b : List Word), hitF deg p (a ++ b) = hitF deg p a ++ hitF deg (p ++ a) b
  | p, [], b => by rw [List.append_nil]; rfl
  | p, z :: a, b => by
    show _ ++ hitF deg (p ++ [z]) (a ++ b) = (_ ++ _) ++ _
    rw [hit_app deg (p ++ [z]) a b, List.append_assoc, List.append_assoc]; simp
theorem hit_ld {deg : Word → Nat} : ∀ (p X : List Word), (∀ z ∈ X, (p ++ X).count z = deg z) → hitF deg p X = ld X
  | p, [], _ => rfl
  | p, z :: r, h => by
    have ih := hit_ld (deg := deg) (p ++ [z]) r fun y hy => by rw [List.append_assoc]; exact h y (.tail _ hy)
    show (if (p ++ [z]).count z = deg z then [z] else []) ++ hitF deg (p ++ [z]) r = if z ∈ r then ld r else z :: ld r
    have h1 := h z (.head _)
    rw [show p ++ z :: r = (p ++ [z]) ++ r by simp, List.count_append] at h1
    rw [ih]
    by_cases q : z ∈ r
    · have := List.count_pos_iff.mpr q
      rw [if_pos q, if_neg (by omega), List.nil_append]
    · have := List.count_eq_zero.mpr q
      rw [if_neg q, if_pos (by omega)]; rfl
theorem hit_mem {deg : Word → Nat} {y : Word} : ∀ (p X : List Word), (∀ z ∈ X, (p ++ X).count z ≤ deg z) → (y ∈ hitF deg p X ↔ y ∈ X ∧ (p ++ X).count y = deg y)
  | p, [], _ => by simp [hitF]
  | p, z :: r, h => by
    have e : p ++ z :: r = (p ++ [z]) ++ r := by simp
    have ih := hit_mem (deg := deg) (y := y) (p ++ [z]) r fun y hy => by rw [← e]; exact h y (.tail _ hy)
    show y ∈ (if (p ++ [z]).count z = deg z then [z] else []) ++ hitF deg (p ++ [z]) r ↔ _
    rw [List.mem_append, ih, ← e]
    have h1 := h z (.head _)
    rw [e, List.count_append] at h1
    constructor
    · rintro (q | ⟨q1, q2⟩)
      · split at q
        · next hc =>
          rw [List.mem_singleton] at q
          subst q
          refine ⟨.head _, ?_⟩
          rw [e, List.count_append]
          omega
        · cases q
      · exact ⟨.tail _ q1, q2⟩
    · rintro ⟨q1, q2⟩
      by_cases hr : y ∈ r
      · exact .inr ⟨hr, q2⟩
      · rcases List.mem_cons.mp q1 with rfl | q1
        · left
          rw [e, List.count_append, List.count_eq_zero.mpr hr] at q2
          rw [if_pos (by omega)]
          exact .head _
        · exact absurd q1 hr
structure Gph (nd : List Word) (g : Word → List Word) (rk : Word → Nat) : Prop where
  nod : nd.Nodup
  cl : ∀ x ∈ nd, ∀ y ∈ g x, y ∈ nd
  up : ∀ x ∈ nd, ∀ y ∈ g x, rk x < rk y
noncomputable def roots (nd : List Word) (g : Word → List Word) : List Word := nd.filter fun y => !((nd.flatMap g).any (· == y))
noncomputable def degW (nd : List Word) (g : Word → List Word) (y : Word) : Nat := (nd.flatMap g).count y
noncomputable def Zw (nd : List Word) (g : Word → List Word) (P : List Word) : List Word := roots nd g ++ hitF (degW nd g) [] (P.flatMap g)
theorem mem_roots {nd : List Word} {g : Word → List Word} {y : Word} : y ∈ roots nd g ↔ y ∈ nd ∧ y ∉ nd.flatMap g := by
  unfold roots
  rw [List.mem_filter, Bool.not_eq_true', ← Bool.not_eq_true, List.any_eq_true]
  refine and_congr_right fun _ => not_congr ⟨fun ⟨x, h1, h2⟩ => (eq_of_beq h2) ▸ h1, fun h => ⟨y, h, by simp⟩⟩
structure Due (nd : List Word) (g : Word → List Word) (due : List Word) : Prop where
  eq : due = roots nd g ++ ld (due.flatMap g)
  nod : due.Nodup
  sub : ∀ y ∈ due, y ∈ nd
section
variable {nd : List Word} {g : Word → List Word} {rk : Word → Nat} {due : List Word}
theorem Due.all (H : Gph nd g rk) (D : Due nd g due) {y : Word} (hy : y ∈ nd) : y ∈ due := by
  have : ∀ n, ∀ y ∈ nd, rk y < n → y ∈ due := fun n => by
    induction n with
    | zero => intro y _ h; exact absurd h (Nat.not_lt_zero _)
    | succ n ih =>
      intro y hy hn
      rw [D.eq]
      by_cases q : y ∈ nd.flatMap g
      · obtain ⟨x, hx, hxy⟩ := List.mem_flatMap.mp q
        have := H.up x hx y hxy
        exact List.mem_append_right _ (mem_ld.mpr (List.mem_flatMap.mpr ⟨x, ih x hx (by omega), hxy⟩))
      · exact List.mem_append_left _ (mem_roots.mpr ⟨hy, q⟩)
  exact this _ y hy (Nat.lt_succ_self _)
theorem Due.perm (H : Gph nd g rk) (D : Due nd g due) : due.Perm nd := (List.perm_ext_iff_of_nodup D.nod H.nod).mpr fun y => ⟨D.sub y, D.all H⟩
theorem Due.count (H : Gph nd g rk) (D : Due nd g due) (y : Word) : (due.flatMap g).count y = degW nd g y := (List.Perm.flatMap_right g (D.perm H)).count_eq y
theorem Due.Z (H : Gph nd g rk) (D : Due nd g due) : Zw nd g due = due := by
  unfold Zw
  rw [hit_ld [] _ fun z _ => by rw [List.nil_append]; exact D.count H z]
  exact D.eq.symm
theorem Due.pre (H : Gph nd g rk) (D : Due nd g due) {X Y : List Word} (h : due.flatMap g = X ++ Y) : due = (roots nd g ++ hitF (degW nd g) [] X) ++ hitF (degW nd g) X Y := by
  have := D.Z H
  unfold Zw at this
  rw [h, hit_app, List.nil_append, ← List.append_assoc] at this
  exact this.symm
theorem Due.le (H : Gph nd g rk) (D : Due nd g due) {X Y : List Word} (h : due.flatMap g = X ++ Y) (z : Word) : X.count z ≤ degW nd g z := by
  rw [← D.count H z, h, List.count_append]; omega
theorem Due.mem (H : Gph nd g rk) (D : Due nd g due) {X Y : List Word} (h : due.flatMap g = X ++ Y) (y : Word) : y ∈ roots nd g ++ hitF (degW nd g) [] X ↔ y ∈ nd ∧ X.count y = degW nd g y := by
  rw [List.mem_append, hit_mem [] X fun z _ => by rw [List.nil_append]; exact D.le H h z, mem_roots, List.nil_append]
  constructor
  · rintro (⟨h1, h2⟩ | ⟨h1, h2⟩)
    · refine ⟨h1, ?_⟩
      have := D.le H h y
      have h3 : degW nd g y = 0 := List.count_eq_zero.mpr h2
      omega
    · refine ⟨?_, h2⟩
      have : y ∈ due := by
        rw [D.eq]
        exact List.mem_append_right _ (mem_ld.mpr (by rw [h]; exact List.mem_append_left _ h1))
      exact D.sub y this
  · rintro ⟨h1, h2⟩
    by_cases q : y ∈ nd.flatMap g
    · right
      have : 0 < degW nd g y := List.count_pos_iff.mpr q
      exact ⟨List.count_pos_iff.mp (by omega), h2⟩
    · exact .inl ⟨h1, q⟩
theorem pre_of {α : Type} {a b c d : List α} (h : a ++ b = c ++ d) (hl : a.length ≤ c.length) : ∃ e, c = a ++ e := by
  refine ⟨c.drop a.length, ?_⟩
  have := congrArg (List.take a.length) h
  rw [List.take_left, List.take_append_of_le_length hl] at this
  calc c = c.take a.length ++ c.drop a.length := (List.take_append_drop ..).symm
    _ = _ := by rw [← this]
theorem Due.more (H : Gph nd g rk) (D : Due nd g due) {P Q : List Word} (h : due = P ++ Q) (hQ : Q ≠ []) : P.length < (Zw nd g P).length := by
  have hf : due.flatMap g = P.flatMap g ++ Q.flatMap g := by rw [h, List.flatMap_append]
  refine Nat.lt_of_not_le fun hle => ?_
  have hp := (D.pre H hf).symm.trans h
  obtain ⟨e, he⟩ := pre_of hp hle
  have hnd := D.nod
  rw [h] at hnd
  have hdis := (List.nodup_append.mp hnd).2.2
  have all : ∀ n, ∀ y ∈ nd, rk y < n → y ∈ P := fun n => by
    induction n with
    | zero => intro y _ h; exact absurd h (Nat.not_lt_zero _)
    | succ n ih =>
      intro y hy hn
      rw [he]
      refine List.mem_append_left _ ((D.mem H hf y).mpr ⟨hy, ?_⟩)
      rw [← D.count H y, hf, List.count_append]
      rw [show (Q.flatMap g).count y = 0 from List.count_eq_zero.mpr fun q => by
        obtain ⟨x, hx, hxy⟩ := List.mem_flatMap.mp q
        have hxn := D.sub x (by rw [h]; exact List.mem_append_right _ hx)
        have := H.up x hxn y hxy
        exact hdis x (ih x hxn (by omega)) x hx rfl]
      rfl
  obtain ⟨q, r, rfl⟩ := List.exists_cons_of_ne_nil hQ
  have hqn := D.sub q (by rw [h]; exact List.mem_append_right _ (.head _))
  exact hdis q (all _ q hqn (Nat.lt_succ_self _)) q (.head _) rfl
end
theorem np_set {ds : List Nd} {z y : Word} {f : Nd → Nd} (hf : ∀ d, (f d).name = d.name) (hy : y ∈ names ds) :
    npOf (setN ds z f) y = if y = z then ((ds.find? fun d => d.name == y).map fun d => (f d).np).getD 0 else npOf ds y := by
  unfold npOf setN
  induction ds with
  | nil => exact nomatch hy
  | cons d r ih =>
    have hn : (if (d.name == z) = true then f d else d).name = d.name := by split <;> simp [hf]
    rw [List.map_cons, List.find?_cons, List.find?_cons, hn]
    by_cases q : d.name = y
    · simp only [q, beq_self_eq_true, Option.map_some, Option.getD_some, beq_iff_eq]
      by_cases e : y = z
      · rw [if_pos e, if_pos e]
      · rw [if_neg e, if_neg e]
    · have q' : (d.name == y) = false := by simpa using q
      rw [q']
      refine ih ?_
      rcases List.mem_cons.mp hy with h | h
      · exact absurd h.symm q
      · exact h
theorem find_name {ds : List Nd} {y : Word} (hy : y ∈ names ds) : ∃ d, ds.find? (fun d => d.name == y) = some d := by
  cases e : ds.find? (fun d => d.name == y) with
  | some d => exact ⟨d, rfl⟩
  | none =>
    obtain ⟨d, hd, rfl⟩ := List.mem_map.mp hy
    exact absurd (List.find?_eq_none.mp e d hd) (by simp)
theorem np_setNp {ds : List Nd} {z y : Word} {v : Int} (hy : y ∈ names ds) : npOf (setN ds z (setNp v)) y = if y = z then v else npOf ds y := by
  obtain ⟨d, hd⟩ := find_name hy
  rw [np_set (f := setNp v) (fun _ => rfl) hy, hd]; rfl
theorem np_dec {ds : List Nd} {z y : Word} (hy : y ∈ names ds) : npOf (setN ds z decNp) y = if y = z then npOf ds y - 1 else npOf ds y := by
  obtain ⟨d, hd⟩ := find_name hy
  rw [np_set (f := decNp) (fun _ => rfl) hy]
  unfold npOf
  rw [hd]; rfl
structure Sim (nd : List Word) (g : Word → List Word) (x : List Nd × List Word) (P X O : List Word) : Prop where
  nm : names x.1 = nd
  sc : ∀ y ∈ nd, succOf x.1 y = g y
  np : ∀ y ∈ nd, npOf x.1 y = if y ∈ P then -2 else if y ∈ O then -1 else (degW nd g y : Int) - (X.count y : Int)
  rd : O ++ x.2 = roots nd g ++ hitF (degW nd g) [] X
  po : ∀ y ∈ P, y ∈ O
section
variable {nd : List Word} {g : Word → List Word} {rk : Word → Nat} {due : List Word} {x : List Nd × List Word} {P X O Y : List Word} {y z : Word}
theorem Sim.pre (S : Sim nd g x P X O) (H : Gph nd g rk) (D : Due nd g due) (h : due.flatMap g = X ++ Y) : ∃ R, due = (O ++ x.2) ++ R := ⟨_, by rw [S.rd]; exact D.pre H h⟩
theorem Sim.nod (S : Sim nd g x P X O) (H : Gph nd g rk) (D : Due nd g due) (h : due.flatMap g = X ++ Y) : (O ++ x.2).Nodup := by
  obtain ⟨R, e⟩ := S.pre H D h
  have := D.nod
  rw [e] at this
  exact (List.nodup_append.mp this).1
theorem take_new' {ys : List Word} {i : Nat} {y : Word} (hnd : ys.Nodup) (hy : ys[i]? = some y) (h : y ∈ ys.take i) : False := by
  rw [← List.take_append_drop i ys] at hnd
  obtain ⟨hi, e⟩ := List.getElem?_eq_some_iff.mp hy
  have h2 := (List.nodup_append.mp hnd).2.2 y h y (by rw [List.drop_eq_getElem_cons hi, e]; exact .head _)
  exact h2 rfl
theorem outN_np {ds : List Nd} : ∀ (R : List Word) {y : Word}, y ∈ names ds → npOf (outN ds R) y = if y ∈ R then -1 else npOf ds y := by
  intro R
  induction R generalizing ds with
  | nil => intro y _; simp [outN]
  | cons r R ih =>
    intro y hy
    have hn : names (setN ds r (setNp (-1))) = names ds := setN_names fun _ => rfl
    have := ih (ds := setN ds r (setNp (-1))) (y := y) (by rw [hn]; exact hy)
    show npOf (outN (setN ds r (setNp (-1))) R) y = _
    rw [this, np_setNp hy]
    by_cases h1 : y ∈ R
    · rw [if_pos h1, if_pos (.tail _ h1)]
    · by_cases h2 : y = r
      · rw [if_neg h1, if_pos h2, if_pos (h2 ▸ .head _)]
      · rw [if_neg h1, if_neg h2, if_neg (fun h => (List.mem_cons.mp h).elim h2 h1)]
theorem Sim.out (S : Sim nd g x P X O) (H : Gph nd g rk) (D : Due nd g due) (h : due.flatMap g = X ++ Y) : Sim nd g (outN x.1 x.2, []) P X (O ++ x.2) where
  nm := (outN_names _ _).trans S.nm
  sc := fun y hy => by rw [succ_shape (outN_shape _ _)]; exact S.sc y hy
  np := fun y hy => by
    have hn := S.np y hy
    show npOf (outN x.1 x.2) y = _
    rw [outN_np x.2 (by rw [S.nm]; exact hy), hn]
    have hdis := (List.nodup_append.mp (S.nod H D h)).2.2
    by_cases h1 : y ∈ x.2
    · have hP : y ∉ P := fun q => hdis y (S.po y q) y h1 rfl
      rw [if_pos h1, if_neg hP, if_pos (List.mem_append_right _ h1)]
    · rw [if_neg h1]
      by_cases hP : y ∈ P
      · rw [if_pos hP, if_pos hP]
      · rw [if_neg hP, if_neg hP]
        by_cases hO : y ∈ O
        · rw [if_pos hO, if_pos (List.mem_append_left _ hO)]
        · rw [if_neg hO, if_neg fun q => (List.mem_append.mp q).elim hO h1]
  rd := by rw [List.append_nil]; exact S.rd
  po := fun y hy => List.mem_append_left _ (S.po y hy)
theorem Sim.dec (S : Sim nd g x P X O) (H : Gph nd g rk) (D : Due nd g due) (h : due.flatMap g = (X ++ [z]) ++ Y) : Sim nd g (decS x z) P (X ++ [z]) O := by
  have h' : due.flatMap g = X ++ (z :: Y) := by rw [h, List.append_assoc]; rfl
  have hlt := D.le H h z
  rw [List.count_append, List.count_singleton_self] at hlt
  have hzm : z ∈ due.flatMap g := by rw [h']; exact List.mem_append_right _ (.head _)
  have hzn : z ∈ nd := by
    obtain ⟨q, h1, h2⟩ := List.mem_flatMap.mp hzm
    exact H.cl q (D.sub q h1) z h2
  have hO : z ∉ O := fun q => by
    have : z ∈ roots nd g ++ hitF (degW nd g) [] X := by rw [← S.rd]; exact List.mem_append_left _ q
    have := ((D.mem H h' z).mp this).2
    omega
  have hP : z ∉ P := fun q => hO (S.po z q)
  have hz := S.np z hzn
  rw [if_neg hP, if_neg hO] at hz
  refine ⟨(setN_names (f := decNp) fun _ => rfl).trans S.nm, fun y hy => ?_, fun y hy => ?_, ?_, S.po⟩
  · show succOf (setN x.1 z decNp) y = _
    rw [succ_shape (setN_shape (f := decNp) fun _ => rfl)]; exact S.sc y hy
  · show npOf (setN x.1 z decNp) y = _
    rw [np_dec (by rw [S.nm]; exact hy)]
    by_cases e : y = z
    · subst e
      rw [if_pos rfl, hz, if_neg hP, if_neg hO, List.count_append, List.count_singleton_self]; omega
    · rw [if_neg e, S.np y hy, List.count_append, List.count_singleton, if_neg (show ¬ (z == y) = true by simpa using fun h => e h.symm)]; rfl
  · rw [hit_app]
    show O ++ (if npOf x.1 z - 1 = 0 then x.2 ++ [z] else x.2) = _ ++ (_ ++ ((if ((([] ++ X) ++ [z]).count z = degW nd g z) then [z] else []) ++ []))
    rw [hz, List.nil_append, List.count_append, List.count_singleton_self, List.append_nil, ← List.append_assoc, ← S.rd]
    by_cases e : X.count z + 1 = degW nd g z
    · rw [if_pos (by omega), if_pos e, List.append_assoc]
    · rw [if_neg (by omega), if_neg e, List.append_nil]
theorem Sim.decs (H : Gph nd g rk) (D : Due nd g due) : ∀ (zs : List Word) {x : List Nd × List Word} {X : List Word}, Sim nd g x P X O → due.flatMap g = (X ++ zs) ++ Y → Sim nd g (zs.foldl decS x) P (X ++ zs) O := fun zs => by
  induction zs with
  | nil => intro x X S _; rw [List.append_nil]; exact S
  | cons z zs ih =>
    intro x X S h
    have e : X ++ z :: zs = (X ++ [z]) ++ zs := by simp
    rw [e] at h ⊢
    exact ih (S.dec H D (Y := zs ++ Y) (by rw [h, List.append_assoc])) h
theorem Sim.done (S : Sim nd g x P (P.flatMap g) O) (H : Gph nd g rk) (D : Due nd g due) (hO : y ∈ O) (hy : y ∈ nd) (h : due.flatMap g = (P ++ [y]).flatMap g ++ Y) : Sim nd g (doneS x y) (P ++ [y]) ((P ++ [y]).flatMap g) O := by
  have e : (P ++ [y]).flatMap g = P.flatMap g ++ g y := by rw [List.flatMap_append]; simp
  rw [e] at h ⊢
  unfold doneS
  rw [S.sc y hy]
  refine Sim.decs H D (g y) ⟨(setN_names (f := setNp (-2)) fun _ => rfl).trans S.nm, fun z hz => ?_, fun z hz => ?_, S.rd, fun z hz => ?_⟩ h
  · rw [succ_shape (setN_shape (f := setNp (-2)) fun _ => rfl)]; exact S.sc z hz
  · show npOf (setN x.1 y (setNp (-2))) z = _
    rw [np_setNp (by rw [S.nm]; exact hz), S.np z hz]
    by_cases q : z = y
    · rw [if_pos q, if_pos (List.mem_append_right _ (List.mem_singleton.mpr q))]
    · rw [if_neg q]
      by_cases q2 : z ∈ P
      · rw [if_pos q2, if_pos (List.mem_append_left _ q2)]
      · rw [if_neg q2, if_neg fun h => (List.mem_append.mp h).elim q2 fun h => q (List.mem_singleton.mp h)]
  · rcases List.mem_append.mp hz with h | h
    · exact S.po z h
    · exact List.mem_singleton.mp h ▸ hO
theorem Sim.dones (H : Gph nd g rk) (D : Due nd g due) : ∀ (ys : List Word) {x : List Nd × List Word} {P Y : List Word}, Sim nd g x P (P.flatMap g) O → (∀ y ∈ ys, y ∈ O ∧ y ∈ nd) → due.flatMap g = (P ++ ys).flatMap g ++ Y → Sim nd g (doneAll x ys) (P ++ ys) ((P ++ ys).flatMap g) O := fun ys => by
  induction ys with
  | nil => intro x P Y S _ _; rw [List.append_nil]; exact S
  | cons y ys ih =>
    intro x P Y S hy h
    have e : P ++ y :: ys = (P ++ [y]) ++ ys := by simp
    rw [e] at h ⊢
    obtain ⟨h1, h2⟩ := hy y (.head _)
    refine ih (S.done H D h1 h2 (Y := ys.flatMap g ++ Y) ?_) (fun z hz => hy z (.tail _ hz)) h
    rw [h, List.flatMap_append (ys := ys), List.append_assoc]
structure Stg (nd : List Word) (g : Word → List Word) (due : List Word) (st : List (List Word)) : Prop where
  fl : st.flatten = due
  ne : ∀ y ∈ st, y ≠ []
  zw : ∀ k, k < st.length → Zw nd g (st.take k).flatten = (st.take (k + 1)).flatten
theorem flat_cut {g : Word → List Word} {st : List (List Word)} (k : Nat) : st.flatten.flatMap g = (st.take k).flatten.flatMap g ++ (st.drop k).flatten.flatMap g := by
  rw [← List.flatMap_append, ← List.flatten_append, List.take_append_drop]
theorem flat_take {st : List (List Word)} {k : Nat} {ys : List Word} (h : st[k]? = some ys) : (st.take (k + 1)).flatten = (st.take k).flatten ++ ys := by
  rw [List.take_add_one, h, List.flatten_append]; simp
theorem rdS_sim {st : List (List Word)} (H : Gph nd g rk) (D : Due nd g due) (T : Stg nd g due st) (S : Sim nd g x [] [] []) : ∀ k, k ≤ st.length → Sim nd g (rdS x k) (st.take k).flatten ((st.take k).flatten.flatMap g) (st.take k).flatten := fun k => by
  induction k with
  | zero => intro _; exact S
  | succ k ih =>
    intro hk
    have S' := ih (by omega)
    have hcut := flat_cut (g := g) (st := st) k
    rw [T.fl] at hcut
    obtain ⟨ys, hys⟩ : ∃ ys, st[k]? = some ys := ⟨_, List.getElem?_eq_getElem (by omega)⟩
    have hz := T.zw k (by omega)
    have hr : (rdS x k).2 = ys := by
      have h1 : (st.take k).flatten ++ (rdS x k).2 = Zw nd g (st.take k).flatten := S'.rd
      rw [hz, flat_take hys] at h1
      exact List.append_cancel_left h1
    have S2 := S'.out H D hcut
    rw [hr] at S2
    rw [flat_take hys]
    show Sim nd g (stB (rdS x k)) _ _ _
    unfold stB
    rw [hr]
    have hcut2 := flat_cut (g := g) (st := st) (k + 1)
    rw [T.fl, flat_take hys] at hcut2
    refine Sim.dones H D ys S2 (fun y hy => ⟨List.mem_append_right _ hy, ?_⟩) hcut2
    refine D.sub y ?_
    rw [← T.fl]
    exact List.mem_flatten.mpr ⟨ys, List.mem_of_getElem? hys, hy⟩
theorem hand01 {st : List (List Word)} (H : Gph nd g rk) (D : Due nd g due) (T : Stg nd g due st) (S : Sim nd g x [] [] []) : Hand01 x st := by
  have hat : ∀ k y, st[k]? = some y → (rdS x k).2 = y := fun k ys hys => by
    obtain ⟨hk, _⟩ := List.getElem?_eq_some_iff.mp hys
    have h1 : (st.take k).flatten ++ (rdS x k).2 = Zw nd g (st.take k).flatten := (rdS_sim H D T S k (by omega)).rd
    rw [T.zw k hk, flat_take hys] at h1
    exact List.append_cancel_left h1
  refine ⟨hat, T.ne, fun k ys hys i y hy => ?_, ?_⟩
  · obtain ⟨hk, _⟩ := List.getElem?_eq_some_iff.mp hys
    have S' := rdS_sim H D T S k (by omega)
    have hcut := flat_cut (g := g) (st := st) k
    rw [T.fl] at hcut
    have S2 := S'.out H D hcut
    rw [hat k ys hys] at S2 ⊢
    have hyy := List.mem_of_getElem? hy
    have hin : ∀ y ∈ ys, y ∈ nd := fun y hy => D.sub y (by rw [← T.fl]; exact List.mem_flatten.mpr ⟨ys, List.mem_of_getElem? hys, hy⟩)
    have hcut2 := flat_cut (g := g) (st := st) (k + 1)
    rw [T.fl, flat_take hys] at hcut2
    have S3 := Sim.dones H D (Y := (ys.drop i).flatMap g ++ (st.drop (k + 1)).flatten.flatMap g) (ys.take i) S2 (fun y hy => ⟨List.mem_append_right _ (List.mem_of_mem_take hy), hin y (List.mem_of_mem_take hy)⟩) (by
      rw [hcut2, List.flatMap_append, List.flatMap_append, show ys.flatMap g = (ys.take i).flatMap g ++ (ys.drop i).flatMap g by rw [← List.flatMap_append, List.take_append_drop]]; simp only [List.append_assoc])
    have hnd := D.nod
    have e1 : due = ((st.take k).flatten ++ ys) ++ (st.drop (k + 1)).flatten := by rw [← flat_take hys, ← List.flatten_append, List.take_append_drop, T.fl]
    rw [e1] at hnd
    have hnd2 := (List.nodup_append.mp hnd).1
    obtain ⟨hn1, hn2, hn3⟩ := List.nodup_append.mp hnd2
    have hni := S3.np y (hin y hyy)
    rw [if_neg (fun q => by
      rcases List.mem_append.mp q with q | q
      · exact hn3 y q y hyy rfl
      · exact take_new' hn2 hy q), if_pos (List.mem_append_right _ hyy)] at hni
    exact hni
  · have S' := rdS_sim H D T S st.length (Nat.le_refl _)
    have h1 : (st.take st.length).flatten ++ (rdS x st.length).2 = Zw nd g (st.take st.length).flatten := S'.rd
    rw [List.take_length, T.fl, D.Z H] at h1
    have := congrArg List.length h1
    rw [List.length_append] at this
    exact List.eq_nil_of_length_eq_zero (by omega)
end
section
variable {nd : List Word} {g : Word → List Word} {rk : Word → Nat} {due : List Word} {x : List Nd × List Word} {P X O Y : List Word} {y z : Word}
theorem due_cut {k : Nat} : due.flatMap g = (due.take k).flatMap g ++ (due.drop k).flatMap g := by rw [← List.flatMap_append, List.take_append_drop]
theorem take_snoc {due : List Word} {k : Nat} {y : Word} (h : due[k]? = some y) : due.take (k + 1) = due.take k ++ [y] := by rw [List.take_add_one, h]; rfl
theorem Due.next (H : Gph nd g rk) (D : Due nd g due) {k : Nat} (h : due[k]? = some y) : y ∈ Zw nd g (due.take k) ∧ k < (Zw nd g (due.take k)).length := by
  obtain ⟨hk, e⟩ := List.getElem?_eq_some_iff.mp h
  have hm := D.more H (P := due.take k) (Q := due.drop k) (List.take_append_drop ..).symm (fun q => by
    rw [List.drop_eq_getElem_cons hk] at q; cases q)
  rw [List.length_take, Nat.min_eq_left (by omega)] at hm
  have hp := D.pre H (X := (due.take k).flatMap g) due_cut
  refine ⟨?_, hm⟩
  refine List.mem_of_getElem? (i := k) ?_
  rw [hp] at h
  exact (List.getElem?_append_left hm).symm.trans h
theorem rdU_take {due : List Word} {k : Nat} {y : Word} (u : (List Nd × List Word) × List Word) (h : due[k]? = some y) : rdU u (due.take (k + 1)) = stU (rdU u (due.take k)) y := by
  unfold rdU; rw [take_snoc h, List.foldl_append]; rfl
theorem rdU_sim (H : Gph nd g rk) (D : Due nd g due) (S : Sim nd g x [] [] []) : ∀ k, Sim nd g (rdU (x, []) (due.take k)).1 (due.take k) ((due.take k).flatMap g) (rdU (x, []) (due.take k)).2 := fun k => by
  induction k with
  | zero => exact S
  | succ k ih =>
    cases e : due[k]? with
    | none =>
      have := List.getElem?_eq_none_iff.mp e
      rw [List.take_of_length_le (by omega)] at ih ⊢
      exact ih
    | some y =>
      rw [rdU_take _ e, take_snoc e]
      have S2 := ih.out H D due_cut
      refine S2.done H D ?_ (D.sub y (List.mem_of_getElem? e)) (Y := (due.drop (k + 1)).flatMap g) (by rw [← take_snoc e]; exact due_cut)
      rw [ih.rd]
      exact (D.next H e).1
theorem Due.zpre (H : Gph nd g rk) (D : Due nd g due) (k : Nat) : ∃ R, due = Zw nd g (due.take k) ++ R := ⟨_, D.pre H due_cut⟩
theorem hand2 (H : Gph nd g rk) (D : Due nd g due) (S : Sim nd g x [] [] []) (hl : due.length ≤ 100) : Hand2 x due := by
  have hS := rdU_sim H D S
  have hz : ∀ k, ∃ R, due = ((rdU (x, []) (due.take k)).2 ++ (rdU (x, []) (due.take k)).1.2) ++ R := fun k => by
    rw [(hS k).rd]; exact D.zpre H k
  have hout : (rdU (x, []) due).2 = due := by
    cases hn : due.length with
    | zero =>
      have := List.eq_nil_of_length_eq_zero hn
      subst this; rfl
    | succ n =>
      obtain ⟨y, hy⟩ : ∃ y, due[n]? = some y := ⟨_, List.getElem?_eq_getElem (by omega)⟩
      have e1 := rdU_take (x, []) hy
      rw [List.take_of_length_le (by omega)] at e1
      rw [e1]
      show (rdU (x, []) (due.take n)).2 ++ (rdU (x, []) (due.take n)).1.2 = due
      obtain ⟨R, hR⟩ := hz n
      have h1 := (D.next H hy).2
      have h2 : Zw nd g (due.take n) = (rdU (x, []) (due.take n)).2 ++ (rdU (x, []) (due.take n)).1.2 := (hS n).rd.symm
      rw [h2] at h1
      have h3 := congrArg List.length hR
      rw [List.length_append (bs := R)] at h3
      have : R = [] := List.eq_nil_of_length_eq_zero (by omega)
      rw [this, List.append_nil] at hR
      exact hR.symm
  refine ⟨fun k y h => ?_, fun k y h => ?_, hout, fun k y h => ?_, fun k => ?_, ?_⟩
  · rw [(hS k).rd]; exact (D.next H h).1
  · have S2 := (hS k).out H D due_cut
    have hyn := D.sub y (List.mem_of_getElem? h)
    rw [S2.np y hyn, if_neg fun q => take_new' D.nod h q, if_pos]
    rw [(hS k).rd]; exact (D.next H h).1
  · rw [S.nm]
    obtain ⟨R, hR⟩ := hz k
    exact D.sub y (by rw [hR]; exact List.mem_append_left _ (List.mem_append_right _ h))
  · obtain ⟨R, hR⟩ := hz k
    have := congrArg List.length hR
    rw [List.length_append, List.length_append] at this
    omega
  · have h1 : (rdU (x, []) (due.take due.length)).2 ++ (rdU (x, []) (due.take due.length)).1.2 = Zw nd g (due.take due.length) := (hS due.length).rd
    rw [List.take_length, hout, D.Z H] at h1
    have := congrArg List.length h1
    rw [List.length_append] at this
    exact List.eq_nil_of_length_eq_zero (by omega)
end
noncomputable def lstW : List (List Word) → List (List Word)
  | [] => []
  | lv :: r => ld (lv.filter fun z => !(r.flatten.contains z)) :: lstW r
theorem lst_flat : ∀ lvs : List (List Word), (lstW lvs).flatten = ld lvs.flatten
  | [] => rfl
  | lv :: r => by
    show (_ :: lstW r).flatten = _
    rw [List.flatten_cons, List.flatten_cons, ld_app, lst_flat r]
theorem lst_len : ∀ lvs : List (List Word), (lstW lvs).length = lvs.length
  | [] => rfl
  | _ :: r => congrArg (· + 1) (lst_len r)
theorem lst_take {y : Word} : ∀ (lvs : List (List Word)) (k : Nat), y ∈ ((lstW lvs).take k).flatten ↔ y ∈ lvs.flatten ∧ y ∉ (lvs.drop k).flatten
  | lvs, 0 => by simp
  | [], k + 1 => by simp [lstW]
  | lv :: r, k + 1 => by
    have ih := lst_take (y := y) r k
    show y ∈ ((_ :: lstW r).take (k + 1)).flatten ↔ _
    rw [List.take_succ_cons, List.flatten_cons, List.mem_append, ih, List.flatten_cons, List.mem_append, List.drop_succ_cons, mem_ld, List.mem_filter, Bool.not_eq_true', ← Bool.not_eq_true, List.contains_iff_mem]
    have hd : y ∈ (r.drop k).flatten → y ∈ r.flatten := fun h => by
      obtain ⟨v, h1, h2⟩ := List.mem_flatten.mp h
      exact List.mem_flatten.mpr ⟨v, List.mem_of_mem_drop h1, h2⟩
    constructor
    · rintro (⟨h1, h2⟩ | ⟨h1, h2⟩)
      · exact ⟨.inl h1, fun q => h2 (hd q)⟩
      · exact ⟨.inr h1, h2⟩
    · rintro ⟨h1, h2⟩
      by_cases q : y ∈ r.flatten
      · exact .inr ⟨q, h2⟩
      · exact .inl ⟨h1.resolve_right q, q⟩
theorem level_mem (later : List Word) {y : Word} : ∀ lv : List Word, y ∈ (levelW later lv).1 ↔ y ∈ later ∨ y ∈ lv
  | [] => by simp [levelW]
  | z :: a => by
    have ih := level_mem later (y := y) a
    have e : levelW later (z :: a) = stepW (levelW later a) z := by unfold levelW; rw [List.reverse_cons, List.foldl_append]; rfl
    rw [e]
    unfold stepW
    split
    · next h =>
      obtain ⟨q, h1, h2⟩ := List.any_eq_true.mp h
      have hq : q = z := eq_of_beq h2
      subst hq
      rw [ih, List.mem_cons]
      constructor
      · rintro (h | h)
        · exact .inl h
        · exact .inr (.inr h)
      · rintro (h | rfl | h)
        · exact .inl h
        · exact (level_mem later a).mp h1
        · exact .inr h
    · rw [List.mem_append, ih, List.mem_singleton, List.mem_cons]
      constructor
      · rintro ((h | h) | h)
        · exact .inl h
        · exact .inr (.inr h)
        · exact .inr (.inl h)
      · rintro (h | h | h)
        · exact .inl (.inl h)
        · exact .inr h
        · exact .inl (.inr h)
theorem level_out (later : List Word) : ∀ lv : List Word, (levelW later lv).2.reverse = ld (lv.filter fun z => !(later.contains z))
  | [] => rfl
  | z :: a => by
    have ih := level_out later a
    have hm := level_mem later (y := z) a
    have e : levelW later (z :: a) = stepW (levelW later a) z := by unfold levelW; rw [List.reverse_cons, List.foldl_append]; rfl
    rw [e, List.filter_cons]
    unfold stepW
    have hany : ((levelW later a).1.any (· == z)) = true ↔ z ∈ (levelW later a).1 := by
      rw [List.any_eq_true]
      exact ⟨fun ⟨q, h1, h2⟩ => (eq_of_beq h2) ▸ h1, fun h => ⟨z, h, by simp⟩⟩
    cases c : later.contains z with
    | true =>
      rw [if_pos (hany.mpr (hm.mpr (.inl (List.contains_iff_mem.mp c)))), if_neg (by decide)]
      exact ih
    | false =>
      have hz : z ∉ later := fun q => by rw [List.contains_iff_mem.mpr q] at c; cases c
      rw [Bool.not_false, if_pos rfl]
      show _ = (if z ∈ a.filter _ then _ else _)
      by_cases q : z ∈ a
      · rw [if_pos (hany.mpr (hm.mpr (.inr q))), if_pos (List.mem_filter.mpr ⟨q, by rw [c]; rfl⟩)]
        exact ih
      · rw [if_neg (fun h => (hm.mp (hany.mp h)).elim hz q), if_neg (fun h => q (List.mem_filter.mp h).1), List.reverse_append, ih]
        rfl
theorem last_eq (lvs : List (List Word)) : lastW lvs = lstW lvs ∧ ∀ y, y ∈ (lastGo lvs).1 ↔ y ∈ lvs.flatten := by
  induction lvs with
  | nil => exact ⟨rfl, fun y => .rfl⟩
  | cons lv r ih =>
    have e : lastGo (lv :: r) = lastStep (lastGo r) lv := by unfold lastGo; rw [List.reverse_cons, List.foldl_append]; rfl
    obtain ⟨h1, h2⟩ := ih
    constructor
    · unfold lastW at h1 ⊢
      rw [e]
      show (_ ++ [(levelW (lastGo r).1 lv).2.reverse]).reverse = _ :: lstW r
      rw [List.reverse_append, h1, level_out]
      show ld _ :: _ = ld _ :: _
      congr 2
      refine List.filter_congr fun z _ => ?_
      congr 1
      rw [Bool.eq_iff_iff, List.contains_iff_mem, List.contains_iff_mem, h2]
    · intro y
      rw [e]
      show y ∈ (levelW (lastGo r).1 lv).1 ↔ _
      rw [level_mem, h2, List.flatten_cons, List.mem_append]
      exact or_comm
structure Lvs (nd : List Word) (g : Word → List Word) (it : Nat → List Word) (N : Nat) : Prop where
  z : it 0 = roots nd g
  s : ∀ k, it (k + 1) = (it k).flatMap g
  e : it N = []
  ne : ∀ k < N, it k ≠ []
section
variable {nd : List Word} {g : Word → List Word} {rk : Word → Nat} {it : Nat → List Word} {N : Nat} {y z : Word}
theorem Lvs.sub (V : Lvs nd g it N) (H : Gph nd g rk) : ∀ k, ∀ y ∈ it k, y ∈ nd
  | 0, y, h => by rw [V.z] at h; exact (mem_roots.mp h).1
  | k + 1, y, h => by
    rw [V.s] at h
    obtain ⟨x, h1, h2⟩ := List.mem_flatMap.mp h
    exact H.cl x (V.sub H k x h1) y h2
theorem Lvs.sum (V : Lvs nd g it N) : ∀ M, ((List.range M).map it).flatten ++ it M = roots nd g ++ ((List.range M).map it).flatten.flatMap g
  | 0 => by rw [← V.z]; simp
  | M + 1 => by
    rw [List.range_succ, List.map_append, List.flatten_append, List.flatMap_append, ← List.append_assoc, ← V.sum M, V.s]
    simp
theorem Lvs.mem {M : Nat} {it : Nat → List Word} {k : Nat} : y ∈ (((List.range M).map it).drop k).flatten ↔ ∃ i, k ≤ i ∧ i < M ∧ y ∈ it i := by
  rw [List.mem_flatten]
  constructor
  · rintro ⟨v, h1, h2⟩
    obtain ⟨j, hj, e⟩ := List.mem_iff_getElem.mp h1
    rw [List.getElem_drop, List.getElem_map, List.getElem_range] at e
    rw [List.length_drop, List.length_map, List.length_range] at hj
    exact ⟨k + j, by omega, by omega, e ▸ h2⟩
  · rintro ⟨i, h1, h2, h3⟩
    refine ⟨it i, ?_, h3⟩
    refine List.mem_iff_getElem.mpr ⟨i - k, by rw [List.length_drop, List.length_map, List.length_range]; omega, ?_⟩
    rw [List.getElem_drop, List.getElem_map, List.getElem_range, show k + (i - k) = i by omega]
theorem Lvs.mem0 {M : Nat} {it : Nat → List Word} : y ∈ ((List.range M).map it).flatten ↔ ∃ i, i < M ∧ y ∈ it i := by
  have := Lvs.mem (y := y) (M := M) (it := it) (k := 0)
  rw [List.drop_zero] at this
  rw [this]
  exact ⟨fun ⟨i, _, h⟩ => ⟨i, h⟩, fun ⟨i, h⟩ => ⟨i, Nat.zero_le _, h⟩⟩
theorem Lvs.due (V : Lvs nd g it N) (H : Gph nd g rk) : Due nd g (ld ((List.range N).map it).flatten) := by
  have hs := V.sum N
  rw [V.e, List.append_nil] at hs
  have hsub : ∀ y ∈ ((List.range N).map it).flatten, y ∈ nd := fun y hy => by
    obtain ⟨i, _, h⟩ := Lvs.mem0.mp hy
    exact V.sub H i y h
  refine ⟨?_, ld_nodup _, fun y hy => hsub y (mem_ld.mp hy)⟩
  rw [← ld_flat]
  conv => lhs; rw [hs]
  refine ld_apart (H.nod.filter _) fun z hz q => (mem_roots.mp hz).2 ?_
  obtain ⟨x, h1, h2⟩ := List.mem_flatMap.mp q
  exact List.mem_flatMap.mpr ⟨x, hsub x h1, h2⟩
theorem pre_eq {due a a' b b' : List Word} (hn : due.Nodup) (ha : due = a ++ a') (hb : due = b ++ b') (h : ∀ y, y ∈ a ↔ y ∈ b) : a = b := by
  have key : ∀ {a a' b b' : List Word}, due = a ++ a' → due = b ++ b' → (∀ y, y ∈ b → y ∈ a) → a.length ≤ b.length → a = b := fun {a a' b b'} ha hb h hl => by
    obtain ⟨e, he⟩ := pre_of (ha.symm.trans hb) hl
    rw [hb, he] at hn
    have h2 := (List.nodup_append.mp (List.nodup_append.mp hn).1).2.2
    cases e with
    | nil => rw [he, List.append_nil]
    | cons y e =>
      have hy := h y (by rw [he]; exact List.mem_append_right _ (.head _))
      exact absurd rfl (h2 y hy y (.head _))
  rcases Nat.le_total a.length b.length with q | q
  · exact key ha hb (fun y => (h y).mpr) q
  · exact (key hb ha (fun y => (h y).mp) q).symm
theorem Lvs.stg (V : Lvs nd g it N) (H : Gph nd g rk) : Stg nd g (ld ((List.range N).map it).flatten) (lstW ((List.range N).map it)) := by
  have D := V.due H
  have hfl := lst_flat ((List.range N).map it)
  have hln : (lstW ((List.range N).map it)).length = N := by rw [lst_len, List.length_map, List.length_range]
  have hmk := fun (y : Word) => lst_take (y := y) ((List.range N).map it)
  generalize lstW ((List.range N).map it) = st at *
  have hcut : ∀ k, ld ((List.range N).map it).flatten = (st.take k).flatten ++ (st.drop k).flatten := fun k => by
    rw [← hfl, ← List.flatten_append, List.take_append_drop]
  have hzw : ∀ k, k < N → Zw nd g (st.take k).flatten = (st.take (k + 1)).flatten := fun k hk => by
    have hf : (ld ((List.range N).map it).flatten).flatMap g = (st.take k).flatten.flatMap g ++ (st.drop k).flatten.flatMap g := by
      rw [← List.flatMap_append, ← hcut k]
    refine pre_eq D.nod (D.pre H hf) (hcut (k + 1)) fun y => ?_
    show y ∈ roots nd g ++ hitF (degW nd g) [] ((st.take k).flatten.flatMap g) ↔ _
    rw [D.mem H hf, hmk, Lvs.mem]
    have hcnt := D.count H y
    rw [hf, List.count_append] at hcnt
    have hq : ∀ x, x ∈ (st.drop k).flatten ↔ ∃ i, k ≤ i ∧ i < N ∧ x ∈ it i := fun x => by
      have hnd := D.nod
      rw [hcut k] at hnd
      have hdis := (List.nodup_append.mp hnd).2.2
      have h1 := hmk x k
      rw [Lvs.mem] at h1
      constructor
      · intro h
        refine Classical.byContradiction fun hc => ?_
        have hx : x ∈ ((List.range N).map it).flatten := mem_ld.mp (by rw [hcut k]; exact List.mem_append_right _ h)
        exact hdis x (h1.mpr ⟨hx, hc⟩) x h rfl
      · rintro ⟨i, h2, h3, h4⟩
        have hx : x ∈ ld ((List.range N).map it).flatten := mem_ld.mpr (Lvs.mem0.mpr ⟨i, h3, h4⟩)
        rw [hcut k] at hx
        rcases List.mem_append.mp hx with h | h
        · exact absurd ⟨i, h2, h3, h4⟩ (h1.mp h).2
        · exact h
    have hy : List.count y ((st.drop k).flatten.flatMap g) = 0 ↔ ¬ ∃ i, k + 1 ≤ i ∧ i < N ∧ y ∈ it i := by
      rw [List.count_eq_zero]
      refine not_congr ?_
      rw [List.mem_flatMap]
      constructor
      · rintro ⟨x, h1, h2⟩
        obtain ⟨i, h3, h4, h5⟩ := (hq x).mp h1
        have h6 : y ∈ it (i + 1) := by rw [V.s]; exact List.mem_flatMap.mpr ⟨x, h5, h2⟩
        refine ⟨i + 1, by omega, ?_, h6⟩
        refine Nat.lt_of_le_of_ne h4 fun e => ?_
        have h7 : i + 1 = N := e
        rw [h7, V.e] at h6
        cases h6
      · rintro ⟨i, h1, h2, h3⟩
        obtain ⟨j, rfl⟩ : ∃ j, i = j + 1 := ⟨i - 1, by omega⟩
        rw [V.s] at h3
        obtain ⟨x, h4, h5⟩ := List.mem_flatMap.mp h3
        exact ⟨x, (hq x).mpr ⟨j, by omega, by omega, h4⟩, h5⟩
    rw [← hy]
    have hall : y ∈ nd ↔ y ∈ ((List.range N).map it).flatten := ⟨fun h => mem_ld.mp (D.all H h), fun h => D.sub y (mem_ld.mpr h)⟩
    rw [hall]
    refine and_congr_right fun _ => ?_
    show _ ↔ List.count y _ = 0
    omega
  refine ⟨hfl, fun ys hys e => ?_, fun k hk => hzw k (by omega)⟩
  subst e
  obtain ⟨k, hk, e⟩ := List.mem_iff_getElem.mp hys
  have hk' : st[k]? = some [] := by rw [List.getElem?_eq_getElem hk, e]
  have h1 := hzw k (by omega)
  rw [flat_take hk', List.append_nil] at h1
  obtain ⟨y, hy⟩ := List.exists_mem_of_ne_nil _ (V.ne k (by omega))
  have h2 : (st.drop k).flatten ≠ [] := fun q => by
    have hc := hcut k
    rw [q, List.append_nil] at hc
    have hyd : y ∈ ld ((List.range N).map it).flatten := mem_ld.mpr (Lvs.mem0.mpr ⟨k, by omega, hy⟩)
    rw [hc] at hyd
    exact ((hmk y k).mp hyd).2 (Lvs.mem.mpr ⟨k, Nat.le_refl _, by omega, hy⟩)
  have h3 := D.more H (hcut k) h2
  rw [h1] at h3
  omega
end
noncomputable def atP (vs : List Int) (p : Nat) : List Int := (vs.drop p).take (p + 1 - p)
noncomputable def predK (xv : List (List Int)) (p : Nat) (j : Int) (ks : List Nat) : List Nat := ks.filter fun k => atP (xv.getD k []) p == [j]
theorem predK_succ {xv : List (List Int)} {p : Nat} {j : Int} {ks : List Nat} {i k : Nat} (h : ks[i]? = some k) : predK xv p j (ks.take (i + 1)) = predK xv p j (ks.take i) ++ if atP (xv.getD k []) p == [j] then [k] else [] := by
  unfold predK
  rw [List.take_succ, h, List.filter_append]
  simp only [Option.toList_some, List.filter_cons, List.filter_nil]
theorem predK_len (xv : List (List Int)) (p : Nat) (j : Int) (ks : List Nat) : (predK xv p j ks).length ≤ ks.length := List.length_filter_le ..
noncomputable def predW (rs : List FileR) (T : Int) (xv : List (List Int)) (p j : Nat) : List Word := (predK xv p j (ordW T 5)).map (nmW rs)
noncomputable def addPl (rs : List FileR) (T : Int) (xv : List (List Int)) (p : Nat) (ds : List Nd) : Nat → List Nd
  | 0 => ds
  | j + 1 => addP (addPl rs T xv p ds j) (nmW rs (j + 1)) (predW rs T xv p (j + 1))
noncomputable def addAll (rs : List FileR) (T : Int) (xv : List (List Int)) (ds : List Nd) : Nat → List Nd
  | 0 => ds
  | p + 1 => addPl rs T xv p (addAll rs T xv ds p) 4
theorem addP_names (ds : List Nd) (y : Word) (zs : List Word) : names (addP ds y zs) = names ds := (adds_names _ _ _).trans (setN_names fun _ => rfl)
theorem addP_places (ds : List Nd) (y : Word) (zs : List Word) : places (addP ds y zs) = places ds := (adds_places _ _ _).trans (setN_places fun _ => ⟨rfl, rfl⟩)
theorem addPl_names (rs : List FileR) (T : Int) (xv : List (List Int)) (p : Nat) (ds : List Nd) : ∀ j, names (addPl rs T xv p ds j) = names ds
  | 0 => rfl
  | j + 1 => (addP_names _ _ _).trans (addPl_names rs T xv p ds j)
theorem addAll_names (rs : List FileR) (T : Int) (xv : List (List Int)) (ds : List Nd) : ∀ p, names (addAll rs T xv ds p) = names ds
  | 0 => rfl
  | p + 1 => (addPl_names _ _ _ _ _ _).trans (addAll_names rs T xv ds p)
theorem predW_len (rs : List FileR) (T : Int) (xv : List (List Int)) (p j : Nat) : (predW rs T xv p j).length ≤ 5 := by
  unfold predW
  rw [List.length_map]
  exact Nat.le_trans (predK_len ..) (Nat.le_of_eq (ordW_len T 5))
theorem addPl_len (rs : List FileR) (T : Int) (xv : List (List Int)) (p : Nat) (ds : List Nd) {m : Nat} (h : ∀ d ∈ ds, d.succ.length ≤ m) : ∀ j, ∀ d ∈ addPl rs T xv p ds j, d.succ.length ≤ m + 5 * j
  | 0 => h
  | j + 1 => fun d hd => by
    have h1 := adds_len (nmW rs (j + 1)) (setN (addPl rs T xv p ds j) (nmW rs (j + 1)) (addNp (predW rs T xv p (j + 1)).length)) (setN_len (f := addNp (predW rs T xv p (j + 1)).length) (fun _ => rfl) (addPl_len rs T xv p ds h j)) (predW rs T xv p (j + 1)) d hd
    have := predW_len rs T xv p (j + 1)
    omega
theorem addAll_len (rs : List FileR) (T : Int) (xv : List (List Int)) (ds : List Nd) (h : ∀ d ∈ ds, d.succ.length = 0) : ∀ p, ∀ d ∈ addAll rs T xv ds p, d.succ.length ≤ 20 * p
  | 0 => fun d hd => Nat.le_of_eq (h d hd)
  | p + 1 => fun d hd => by
    have := addPl_len rs T xv p _ (addAll_len rs T xv ds h p) 4 d hd
    omega
section
variable {G : Gr} {w : World} {l : List Ent} {n : Nat} {KV : Pt → List Ent → Prop}
theorem shL_has {xs : List (Addr × List Int)} {x : Addr × List Int} (h : x ∈ xs) (l : List Ent) : Has x.1 (lst (x.2.map Pt.int)) (shL xs ++ l) := Has.left (Has.of_mem (List.mem_map.mpr ⟨x, h, rfl⟩)) l
theorem g_addold {S D n2 : Addr} {po nf : Int} {ds : List Nd} {y : Word} {zs : List Word} {pl : List (Word × Pt)} (m : List Ent) (hpl : places ds = pl) (B : Bx G w 4) (hz : zs.length ≤ 1000) (hnd : (names ds).Nodup) (hy : y ∈ names ds) (hzs : ∀ z ∈ zs, z ∈ names ds) (hsz : ∀ d ∈ ds, d.succ.length ≤ 1000)
    (h : KV .none ((S, inst 137 D []) :: (D, dicP (sorD n2 .none po nf)) :: (n2, dct w pl) :: (m ++ ((addP ds y zs).flatMap nodeL ++ l)))) :
    WK B ((S, inst 137 D []) :: (D, dicP (sorD n2 .none po nf)) :: (n2, dct w pl) :: (m ++ (ds.flatMap nodeL ++ l))) (.ref 87) ([.ref S, .str y] ++ zs.map Pt.str) KV := by
  subst hpl
  refine WK.im (.tl (.tl (.tl (.perm (List.perm_append_comm_assoc _ _ _) .refl)))) (WK.post (s_addold B hz hnd hy hzs hsz ⟨_, ?_, h⟩))
  exact .tl (.tl (.tl (.perm (List.perm_append_comm_assoc _ _ _) .refl)))
theorem b_places {la : LwA} {lb : LwB} {lx : LexA} {ta sg sh S D n2 : Addr} {rs : List FileR} {T : Int} {t : Word} {c : Nat} {xs : List (Addr × List Int)} {ds0 : List Nd} {env : Env} {KF : Fl → List Ent → Prop} (B : Bx G w 20) (en : En env la.L f304.scope (lwC la)) (hxl : xs.length = 5) (hx3 : ∀ x ∈ xs, x.2.length ≤ 1000)
    (hnd : (toldW rs T).Nodup) (inT : ∀ {k : Nat}, k < 5 → nmW rs k ∈ toldW rs T) (hn0 : names ds0 = toldW rs T) (hs0 : ∀ d ∈ ds0, d.succ.length = 0)
    (h : WF B (adL w la lb lx t ta sh sg S D n2 rs T xs c none none (addAll rs T (xs.map (·.2)) ds0 3) l) (execs (cBody.drop 6) env) KF) :
    WF B (adL w la lb lx t ta sh sg S D n2 rs T xs c none none ds0 l) (execs (cBody.drop 5) env) KF := by
  have hol := ordW_len T 5
  refine k_forR (α := Unit) 3 (fun p _ => True) (fun p _ => adL w la lb lx t ta sh sg S D n2 rs T xs c none none (addAll rs T (xs.map (·.2)) ds0 p) l) en (by kernel_rfl) ?_ ?_ ?_
  · unfold adL lw5 lexL lexB lexR lwL
    refine k_int ?_
    refine ⟨rfl, by decide, (), trivial, ?_⟩
    exact .refl
  · intro it1 p _ KF1 hp _ hN1 _ _
    have hnp : names (addAll rs T (xs.map (·.2)) ds0 p) = toldW rs T := (addAll_names _ _ _ _ _).trans hn0
    have hsp := addAll_len rs T (xs.map (·.2)) ds0 hs0 p
    have ⟨ds1, hds1⟩ : ∃ z, z = addAll rs T (xs.map (·.2)) ds0 p := ⟨_, rfl⟩
    rw [← hds1] at hnp hsp ⊢
    unfold adL lw5 lexL lexB lexR lwL
    refine k_asgN ?_
    refine k_storeC 15 en rfl rfl (by kernel_rfl) ?_
    refine k_forS (α := Unit) 4 (fun k => ri (1 + k) ((4 : Nat) - (k : Int)) 1) (fun k p => p = .int (1 + k)) (fun _ _ => True)
      (fun j _ => (it1, ri ((p + 1 : Nat) : Int) ((3 : Nat) - ((p + 1 : Nat) : Int)) 1) :: adL w la lb lx t ta sh sg S D n2 rs T xs c (some (.int p)) none (addPl rs T (xs.map (·.2)) p ds1 j) l) ?_ (fun it => src_range) ?_ ?_
    · refine k_tcall (T := "range") en (by kernel_rfl) (by kernel_rfl) (by kernel_rfl) ?_
      refine k_items_cons ?_
      refine k_int ?_
      refine k_items_cons ?_
      refine k_int ?_
      refine k_items_nil ?_
      refine c_range2 fun a => ?_
      refine k_iterR (m := 4) .head (by decide) (by decide) (by decide) fun it => ?_
      refine ⟨it, (), rfl, trivial, ?_⟩
      unfold adL lw5 lexL lexB lexR lwL
      exact imx 30 729373665078272626212879197351205353453211943009529984 31 rfl (by kernel_rfl)
    · intro it2 j _ p2 KF2 hj _ hp2 hN2 _ _
      subst hp2
      have hnj : names (addPl rs T (xs.map (·.2)) p ds1 j) = toldW rs T := (addPl_names _ _ _ _ _ _).trans hnp
      have hsj := addPl_len rs T (xs.map (·.2)) p ds1 hsp j
      have hst : addPl rs T (xs.map (·.2)) p ds1 (j + 1) = addP (addPl rs T (xs.map (·.2)) p ds1 j) (nmW rs (j + 1)) (predW rs T (xs.map (·.2)) p (j + 1)) := rfl
      have hj1 : 1 + (j : Int) = ((j + 1 : Nat) : Int) := by omega
      rw [hj1]
      have ⟨ds2, hds2⟩ : ∃ z, z = addPl rs T (xs.map (·.2)) p ds1 j := ⟨_, rfl⟩
      rw [← hds2] at hnj hsj hst ⊢
      have hv1 := names_at (rs := rs) (k := j + 1) (by omega)
      unfold adL lw5 lexL lexB lexR lwL
      refine k_asgN ?_
      refine k_storeC 23 en rfl rfl (by kernel_rfl) ?_
      refine k_Expr en (by kernel_rfl) ?_
      refine k_imethB 87 f87 ?_
      refine k_name 25 6 en rfl rfl (by kernel_rfl) ?_
      refine k_bound (f := 87) 2 3 rfl rfl rfl (by kernel_rfl) fun mo => ?_
      refine ⟨mo, S, rfl, ⟨0, rfl⟩, by kernel_rfl, ?_⟩
      refine k_items_cons ?_
      refine k_Subscript ?_
      refine k_cell 23 en rfl rfl (by kernel_rfl) ?_
      refine k_cell 24 en rfl rfl (by kernel_rfl) ?_
      refine k_get (.ofL 29 rfl) (by omega) (by omega) (by assumption) ?_
      refine k_items_star ?_
      refine k_ListComp [("shows", la.ash), ("place", la.apl), ("names", la.anm), ("j", la.aj)] en rfl (by kernel_rfl) ?_
      refine k_name 26 1 en rfl rfl (by kernel_rfl) ?_
      refine k_iterL 30 rfl fun it => ?_
      refine ⟨it, rfl, fun acc C env2 en2 => ?_⟩
      refine k_comp1 (α := Unit) ((ordW T 5).map pti).length (fun i => li lb.oa i) (fun i p => ((ordW T 5).map pti)[i]? = some p) (fun _ _ => True)
        (fun i _ => (C, nsP [("k", none)]) :: (acc, lst (((predK (xs.map (·.2)) p (j + 1 : Nat) ((ordW T 5).take i)).map (nmW rs)).map Pt.str)) :: (mo, bmP 87 S) :: (it2, ri ((1 : Int) + (j + 1 : Nat)) ((4 : Nat) - ((j + 1 : Nat) : Int)) 1) :: (it1, ri ((p + 1 : Nat) : Int) ((3 : Nat) - ((p + 1 : Nat) : Int)) 1) :: adL w la lb lx t ta sh sg S D n2 rs T xs c (some (.int p)) (some (.int (j + 1 : Nat))) ds2 l)
        (fun it => src_list fun k' l' h => by obtain ⟨_, _, rfl⟩ := h; exact Has.of (i := 32) rfl) ?_ ?_ it () trivial ?_ (self_li 2 rfl)
      · intro it3 i _ p1 K' hi _ hp1 hK
        obtain ⟨k, hk, rfl⟩ := Option.map_eq_some_iff.mp ((List.getElem?_map (f := pti) (l := ordW T 5) (i := i)).symm.trans hp1)
        have hk5 := ordW_lt T (List.mem_of_getElem? hk)
        have hv2 := names_at (rs := rs) hk5
        obtain ⟨x, hx⟩ : ∃ x, xs[k]? = some x := ⟨_, List.getElem?_eq_getElem (by omega)⟩
        have hv3 : (shR xs)[(k : Int).toNat]? = some (.ref x.1) := by unfold shR; rw [Int.toNat_natCast, List.getElem?_map, hx]; rfl
        unfold adL lw5 lexL lexB lexR lwL
        refine k_asgTN ?_
        refine k_store 1 0 en2 rfl (by kernel_rfl) ?_
        refine wifs_one ?_
        refine k_tCompare ?_
        refine k_lslice ?_
        refine k_Subscript ?_
        refine k_cell 21 en2 rfl rfl (by kernel_rfl) ?_
        refine k_name 1 0 en2 rfl rfl (by kernel_rfl) ?_
        refine k_get (.ofL 9 rfl) (by omega) (by omega) (by assumption) ?_
        refine k_some ?_
        refine k_cell 20 en2 rfl rfl (by kernel_rfl) ?_
        refine k_some ?_
        refine k_BinOp ?_
        refine k_cell 20 en2 rfl rfl (by kernel_rfl) ?_
        refine k_int ?_
        refine k_add ?_
        refine ⟨x.1, x.2.map Pt.int, some p, some (p + 1), rfl, (let ⟨i, e⟩ := Has.idx (by repeat first | exact shL_has (List.mem_of_getElem? hx) _ | refine Has.tail ?_ | refine Has.right ?_ _); .ofL i e), ⟨p, rfl, rfl⟩, ⟨p + 1, rfl, rfl⟩, fun k e => by cases e; exact Nat.le_succ _, by rw [List.length_map]; exact Nat.le_trans (hx3 x (List.mem_of_getElem? hx)) (by decide), fun b1 => ?_⟩
        rw [show ((x.2.map Pt.int).drop ((some p : Option Nat).getD 0)).take ((some (p + 1) : Option Nat).getD (x.2.map Pt.int).length - (some p : Option Nat).getD 0) = (atP x.2 p).map Pt.int by unfold atP; rw [List.map_take, List.map_drop]; rfl]
        refine k_List ?_
        refine k_items_cons ?_
        refine k_cell 28 en2 rfl rfl (by kernel_rfl) ?_
        refine k_items_nil ?_
        refine ⟨Nat.le_of_ble_eq_true rfl, fun a => ?_⟩
        refine k_eqD (RdP.lst 1 rfl (flat_ints _)) (RdP.lst 0 rfl rfl) (shaped_lst (flat_ints _)) (shaped_lst rfl) ?_
        rw [show PyData.eqv (.list (((atP x.2 p).map Pt.int).map pdP)) (.list (([.int (j + 1 : Nat)] : List Pt).map pdP)) = (atP x.2 p == [((j + 1 : Nat) : Int)]) from eqv_ints _ [_]]
        refine k_tb ?_
        have hxv : (xs.map (·.2)).getD k [] = x.2 := by rw [List.getD_eq_getElem?_getD, List.getElem?_map, hx]; rfl
        have htl : (((predK (xs.map (·.2)) p (j + 1 : Nat) ((ordW T 5).take i)).map (nmW rs)).map Pt.str).length ≤ 1000 := by
          have := predK_len (xs.map (·.2)) p (j + 1 : Nat) ((ordW T 5).take i)
          rw [List.length_map, List.length_map]
          rw [List.length_take] at this
          omega
        refine ⟨fun q => ?_, fun q => ?_⟩
        · refine k_Subscript ?_
          refine k_cell 28 en2 rfl rfl (by kernel_rfl) ?_
          refine k_name 3 0 en2 rfl rfl (by kernel_rfl) ?_
          refine k_get (.ofL 34 rfl) (by omega) (by omega) (by assumption) ?_
          refine c_append 4 rfl (by first | decide | omega | (simp; omega) | exact Nat.le_of_ble_eq_true rfl | (simp; done)) ?_
          refine hK _ () trivial ?_
          rw [predK_succ hk, hxv, if_pos q, List.map_append, List.map_append]
          unfold adL lw5 lexL lexB lexR lwL
          exact imw 3 1 rfl rfl (Wk.w (.forget .refl)) (imx 34 14277415770407919646437830996301022427650029320422375042597058 36 rfl (by kernel_rfl))
        · refine hK _ () trivial ?_
          rw [predK_succ hk, hxv, if_neg (by rw [q]; decide), List.append_nil]
          unfold adL lw5 lexL lexB lexR lwL
          exact imw 3 1 rfl rfl (Wk.w (.forget .refl)) (imx 34 14277415770407919646437830996301022427650029320422375042597058 36 rfl (by kernel_rfl))
      · intro _ _
        rw [List.length_map, hol, List.take_of_length_le (Nat.le_of_eq hol)]
        unfold adL lw5 lexL lexB lexR lwL
        refine k_endC (.keep .head .refl) ?_
        have hpl5 := predW_len rs T (xs.map (·.2)) p (j + 1)
        refine ⟨acc, (predW rs T (xs.map (·.2)) p (j + 1)).map Pt.str, rfl, .inl ⟨0, rfl⟩, by rw [List.length_map]; omega, ?_⟩
        refine k_items_nil ?_
        refine ⟨.tail .head, ?_⟩
        rw [List.append_nil]
        refine WK.im (.keep (.tail (.tail (.tail (.tail .head)))) (.keep (.tail (.tail (.tail (.tail .head)))) (.keep (.tail (.tail (.tail (.tail .head)))) .refl))) (g_addold (ds := ds2) (zs := predW rs T (xs.map (·.2)) p (j + 1)) (_ :: _ :: _ :: _ :: _ :: _ :: _ :: _ :: _ :: _ :: _ :: _ :: _ :: _ :: _ :: _ :: _ :: _ :: _ :: _ :: _ :: _ :: _ :: _ :: _ :: _ :: _ :: _ :: _ :: FL rs) rfl (B.le (by decide)) (by omega) (by rw [hnj]; exact hnd) ?_ ?_ (fun d hd => Nat.le_trans (hsj d hd) (by omega)) ?_)
        · rw [hnj]
          exact inT (by omega)
        · intro z hz
          rw [hnj]
          obtain ⟨k, hk, rfl⟩ := List.mem_map.mp hz
          exact List.mem_map.mpr ⟨k, (List.mem_filter.mp hk).1, rfl⟩
        refine ⟨rfl, ?_⟩
        refine k_nil ?_
        refine (hN2 _ () trivial ?_).1
        rw [hst]
        unfold adL lw5 lexL lexB lexR lwL
        rw [addP_places]
        exact imw 25 23 rfl rfl cel_of (imx 30 753698991123762925551900578734543594463033198849032581 32 rfl (by kernel_rfl))
      · unfold adL lw5 lexL lexB lexR lwL
        exact imw 0 1 rfl rfl (Wk.w (.new .refl)) (imx 34 13461193271736686490606993108127733486686370656913654872281090 34 rfl (by kernel_rfl))
    · intro _ _
      refine k_nil ?_
      refine nx_next ?_
      refine k_nil ?_
      refine (hN1 _ () trivial ?_).1
      rw [show addAll rs T (xs.map (·.2)) ds0 (p + 1) = addPl rs T (xs.map (·.2)) p ds1 4 by rw [hds1]; rfl]
      unfold adL lw5 lexL lexB lexR lwL
      exact imw 15 15 rfl rfl cel_of (imx 29 10636297077926437930231819290383263616149522362409024 29 rfl (by kernel_rfl))
  · intro _ _
    refine k_nil ?_
    refine nx_next ?_
    exact h
end
section
variable {G : Gr} {w : World} {l : List Ent} {n : Nat} {KV : Pt → List Ent → Prop}
noncomputable abbrev locC (lx : LexA) (lb : LwB) (t : Word) (sg S : Addr) : Loc := ([bd "script" (.ref lb.sa), bd "order" (.ref lb.oa), bd "text" (.str t), bd "at" (.ref lx.at_)] : Loc) ++ ([("below", none), bd "stages" (.ref sg), bd "sorter" (.ref S), ("k", none)] : Loc)
noncomputable abbrev adR (w : World) (la : LwA) (lb : LwB) (lx : LexA) (t : Word) (ta sh sg S D n2 ra : Addr) (rd : List Word) (rs : List FileR) (T : Int) (xs : List (Addr × List Int)) (c : Nat) (ds : List Nd) (l1 : List Ent) : List Ent :=
  (S, inst 137 D []) :: (D, dicP (sorD n2 (.ref ra) 0 0)) :: (ra, lst (rd.map Pt.str)) :: (n2, dct w (places ds)) :: (sh, lst (shR xs)) :: lw5 la lb lx t t.length ta rs T none (some (.ref sh)) (some (.int c)) none [("below", none), bd "stages" (.ref sg), bd "sorter" (.ref S), ("k", none)] (ds.flatMap nodeL ++ (shL xs ++ l1))
theorem g_prep {S D n2 : Addr} {po nf : Int} {ds : List Nd} {f1 : Frm} {rk : Word → Nat} (m : List Ent) (B : Bx G w 3) (hA : B.A.frames = some [f1.1]) (hok : FrOk [f1]) (hnd : (names ds).Nodup) (hrem : rem ds [] ≤ 1000) (hz : ds.length ≤ 1000)
    (hrk : ∀ d ∈ ds, ∀ y ∈ d.succ, y ∈ names ds ∧ rk d.name < rk y)
    (h : ∀ ra, KV .none ((f1.2.1, nsP f1.2.2) :: (S, inst 137 D []) :: (D, dicP (sorD n2 (.ref ra) po nf)) :: (ra, lst ((readyW ds).map Pt.str)) :: (n2, dct w (places ds)) :: (m ++ (ds.flatMap nodeL ++ l)))) :
    WC B ((f1.2.1, nsP f1.2.2) :: (S, inst 137 D []) :: (D, dicP (sorD n2 .none po nf)) :: (n2, dct w (places ds)) :: (m ++ (ds.flatMap nodeL ++ l))) (.ref 92) [.ref S] KV := by
  refine WC.im (.tl (.tl (.tl (.tl (.perm (List.perm_append_comm_assoc _ _ _) .refl))))) (WC.post (s_prepare B hA hok hnd hrem hz hrk fun ra => ⟨_, ?_, h ra⟩))
  exact .tl (.tl (.tl (.tl (.tl (.perm (List.perm_append_comm_assoc _ _ _) .refl)))))
theorem b_prep {la : LwA} {lb : LwB} {lx : LexA} {ta sg sh S D n2 : Addr} {rs : List FileR} {T : Int} {t : Word} {c : Nat} {xs : List (Addr × List Int)} {ds : List Nd} {rk : Word → Nat} {y : Word} {ys : List Word} {env : Env} {KF : Fl → List Ent → Prop} (B : Bx G w 20) (en : En env la.L f304.scope (lwC la)) (hA : B.A.frames = some [env]) (hf : env.frame = some la.L)
    (hto : toldW rs T = y :: ys) (hyl : ys.length ≤ 999) (hnd : (names ds).Nodup) (hrem : rem ds [] ≤ 1000) (hz : ds.length ≤ 1000) (hrk : ∀ d ∈ ds, ∀ y ∈ d.succ, y ∈ names ds ∧ rk d.name < rk y)
    (h : ∀ ra, WF B (adR w la lb lx t ta sh sg S D n2 ra (readyW ds) rs T xs c ds l) (execs (cBody.drop 7) env) KF) :
    WF B (adL w la lb lx t ta sh sg S D n2 rs T xs c none none ds l) (execs (cBody.drop 6) env) KF := by
  have hk0 : env.scope.kind = .function := by rw [en.s]; exact eq_of_beq (by kernel_rfl)
  have hk : env.scope.kind ≠ .module := by rw [hk0]; decide
  have hok : FrOk [(env, la.L, locC lx lb t sg S)] := fun x hx => by
    rw [List.mem_singleton.mp hx]; exact ⟨hf, hk⟩
  have hex : ∀ {l l' : List Ent}, Ex (ta, lst ((toldW rs T).map Pt.str)) l l' → Ex (ta, lst ((y :: ys).map Pt.str)) l l' := fun h => hto ▸ h
  unfold adL lw5 lexL lexB lexR lwL
  refine k_If ?_
  refine k_tBoolOp ?_
  refine k_Or ?_
  refine k_tCompare ?_
  refine k_imeth0 (f := 92) (fd := f92) ?_
  refine k_name 23 6 en rfl rfl (by kernel_rfl) ?_
  refine qim 0 1 rfl rfl (by kernel_rfl) (by kernel_rfl) (by kernel_rfl) ?_
  refine WC.im (.keep (by repeat first | exact Ex.head | refine Ex.tail ?_) (.keep .head (.keep .head (.keep .head .refl)))) (g_prep (ds := ds) (f1 := (env, la.L, locC lx lb t sg S)) (rk := rk) (_ :: _ :: _ :: _ :: _ :: _ :: _ :: _ :: _ :: _ :: _ :: _ :: _ :: _ :: _ :: _ :: _ :: _ :: _ :: _ :: _ :: _ :: _ :: _ :: FL rs) (B.le (by decide)) hA hok hnd hrem hz hrk fun ra => ?_)
  refine k_none ?_
  refine k_isnot (by rfl) ?_
  refine k_tb ?_
  refine ⟨fun e => Bool.noConfusion (show false = true from e), fun _ => ?_⟩
  refine k_Or ?_
  refine k_tNot ?_
  refine k_tVal ?_
  refine k_call (f := 294) (fd := f294) en (by kernel_rfl) (by kernel_rfl) (by kernel_rfl) ?_
  refine k_items_cons ?_
  refine k_name 0 6 en rfl rfl (by kernel_rfl) ?_
  refine k_items_cons ?_
  refine k_cell 19 en rfl rfl (by kernel_rfl) ?_
  refine k_items_nil ?_
  refine WC.im (.keep .head (.keep .head (.keep .head (.keep (hex (by repeat first | exact Ex.head | apply Ex.tail)) .refl)))) (s_shut (f1 := (env, la.L, locC lx lb t sg S)) (y := y) (ys := ys) (B.le (by decide)) hA hok hyl ?_)
  rw [← hto]
  refine k_tb ?_
  refine ⟨fun e => Bool.noConfusion (show false = true from e), fun _ => ?_⟩
  refine k_Or_nil ?_
  refine ⟨fun e => Bool.noConfusion (show false = true from e), fun _ => ?_⟩
  refine k_nil ?_
  refine nx_next ?_
  refine WF.im ?_ (h ra)
  unfold adR lw5 lexL lexB lexR lwL
  exact imx 29 10636265143967273799412198806204085065367222354198657 29 rfl (by kernel_rfl)
end
theorem pm_hand {e : Ent} (m N H U l : List Ent) : (m ++ (N ++ (H ++ (e :: (U ++ l))))).Perm (e :: (N ++ (U ++ (m ++ (H ++ l))))) := by
  refine (List.Perm.trans (l₂ := e :: (m ++ (N ++ (H ++ (U ++ l))))) ?_ (.cons _ ?_))
  · rw [← List.append_assoc, ← List.append_assoc]
    refine List.perm_middle.trans (.cons _ ?_)
    rw [List.append_assoc, List.append_assoc]
  · refine (List.perm_append_comm_assoc m N _).trans ((List.Perm.refl N).append ?_)
    refine List.Perm.trans ((List.Perm.refl m).append (List.perm_append_comm_assoc H U l)) ?_
    exact List.perm_append_comm_assoc m U _
section
variable {G : Gr} {w : World} {l : List Ent} {n : Nat} {KV : Pt → List Ent → Prop}
theorem g_handed {S D n2 ra sa : Addr} {po : Int} {x : List Nd × List Word} {ts : List (Addr × List Word)} {c : Nat} (m H : List Ent) (B : Bx G w 2) (hc : c ≤ 2) (hnd : (names x.1).Nodup) (hsc : ∀ y, (succOf x.1 y).length ≤ 100 ∧ ∀ s ∈ succOf x.1 y, s ∈ names x.1)
    (hst : ∀ y ∈ ts, y.2.length ≤ 100 ∧ (∀ z ∈ y.2, z ∈ names x.1) ∧ ∀ z ∈ y.2, okW z) (htl : ts.length ≤ 100) (hrd : x.2.length ≤ 100) (hdl : ((ts.map (·.2)).flatten).length ≤ 1000)
    (h1 : c < 2 → Hand01 x (ts.map (·.2))) (h2 : c = 2 → Hand2 x (ts.map (·.2)).flatten) (h : KV (.bool true) (m ++ (H ++ l))) :
    WC B ((S, inst 137 D []) :: (D, dicP (sorD n2 (.ref ra) po po)) :: (ra, lst (x.2.map Pt.str)) :: (n2, dct w (places x.1)) :: (m ++ (x.1.flatMap nodeL ++ (H ++ ((sa, lst (rfs ts)) :: (tuL ts ++ l)))))) (.ref 299) [.ref S, .ref sa, .int c] KV :=
  WC.im (.tl (.tl (.tl (.tl (.perm (pm_hand _ _ _ _ _) .refl))))) (s_handed B hc hnd hsc hst htl hrd hdl h1 h2 h)
theorem b_handed {la : LwA} {lb : LwB} {lx : LexA} {ta sg sh S D n2 ra : Addr} {rs : List FileR} {T : Int} {t : Word} {c : Nat} {xs : List (Addr × List Int)} {ds : List Nd} {rd : List Word} {ts : List (Addr × List Word)} {env : Env} {KF : Fl → List Ent → Prop} (B : Bx G w 20) (en : En env la.L f304.scope (lwC la))
    (hc : c ≤ 2) (hnd : (names ds).Nodup) (hsc : ∀ y, (succOf ds y).length ≤ 100 ∧ ∀ s ∈ succOf ds y, s ∈ names ds)
    (hst : ∀ y ∈ ts, y.2.length ≤ 100 ∧ (∀ z ∈ y.2, z ∈ names ds) ∧ ∀ z ∈ y.2, okW z) (htl : ts.length ≤ 100) (hrd : rd.length ≤ 100) (hdl : ((ts.map (·.2)).flatten).length ≤ 1000)
    (h1 : c < 2 → Hand01 (ds, rd) (ts.map (·.2))) (h2 : c = 2 → Hand2 (ds, rd) (ts.map (·.2)).flatten)
    (h : ∀ l', Im l' (lw5 la lb lx t t.length ta rs T none none none none [("below", none), ("stages", none), ("sorter", none), ("k", none)] l) → KF .next l') :
    WF B (adR w la lb lx t ta sh sg S D n2 ra rd rs T xs c ds ((sg, lst (rfs ts)) :: (tuL ts ++ l))) (execs (cBody.drop 7) env) KF := by
  unfold adR lw5 lexL lexB lexR lwL
  refine k_If ?_
  refine k_tNot ?_
  refine k_tVal ?_
  refine k_call (f := 299) (fd := f299) en (by kernel_rfl) (by kernel_rfl) (by kernel_rfl) ?_
  refine k_items_cons ?_
  refine k_name 24 6 en rfl rfl (by kernel_rfl) ?_
  refine k_items_cons ?_
  refine k_name 24 5 en rfl rfl (by kernel_rfl) ?_
  refine k_items_cons ?_
  refine k_cell 17 en rfl rfl (by kernel_rfl) ?_
  refine k_items_nil ?_
  refine g_handed (x := (ds, rd)) (_ :: _ :: _ :: _ :: _ :: _ :: _ :: _ :: _ :: _ :: _ :: _ :: _ :: _ :: _ :: _ :: _ :: _ :: _ :: _ :: _ :: _ :: _ :: _ :: _ :: FL rs) (shL xs) (B.le (by decide)) hc hnd hsc hst htl hrd hdl h1 h2 ?_
  refine k_tb ?_
  refine ⟨fun e => Bool.noConfusion (show false = true from e), fun _ => ?_⟩
  refine k_nil ?_
  refine nx_next ?_
  refine k_nil ?_
  refine h _ ?_
  unfold lw5 lexL lexB lexR lwL
  refine imw 12 11 rfl rfl cel_of (imw 13 12 rfl rfl cel_of (imw 20 19 rfl rfl (Wk.w (.keep (.keep (.keep (.keep (.keep (.forget (.forget .refl)))))))) (imxk 24 8489903248924104703164643565122618855010433 25 rfl (by kernel_rfl) ?_)))
  exact .drop (imTl (im_dropL (shL xs)) (FL rs))
end
noncomputable def ordN (a b : Nat) : List Nat := (List.range 5).map fun k => (a + k * (1 + b)) % 5
theorem ordW_eq (T : Int) : ∃ a b, a < 5 ∧ b < 4 ∧ ordW T 5 = ordN a b := by
  refine ⟨(T % 5).toNat, (T / 5 % 4).toNat, by omega, by omega, ?_⟩
  unfold ordW ordN
  refine List.map_congr_left fun k hk => ?_
  have hk5 := List.mem_range.mp hk
  unfold ordI
  generalize hb : (T / 5 % 4).toNat = b
  have hb' : T / 5 % 4 = (b : Int) := by omega
  obtain ⟨a, ha⟩ : ∃ a : Nat, T % 5 = (a : Int) := ⟨_, (Int.toNat_of_nonneg (Int.emod_nonneg _ (by decide))).symm⟩
  rw [hb', ← Int.emod_add_emod, ha]
  exact Int.toNat_natCast ((a + k * (1 + b)) % 5)
theorem ordN_ok : ∀ a < 5, ∀ b < 4, (ordN a b).Nodup ∧ ∀ k < 5, k ∈ ordN a b := by decide
theorem ordW_nod (T : Int) : (ordW T 5).Nodup := by
  obtain ⟨a, b, ha, hb, e⟩ := ordW_eq T
  rw [e]; exact (ordN_ok a ha b hb).1
theorem ordW_all (T : Int) {k : Nat} (hk : k < 5) : k ∈ ordW T 5 := by
  obtain ⟨a, b, ha, hb, e⟩ := ordW_eq T
  rw [e]; exact (ordN_ok a ha b hb).2 k hk
theorem fmW_ten (m : Int) : fmW m 10 = [fmCh m 0 (fmA.getD 0 (0, [])).2, fmCh m 1 (fmA.getD 1 (0, [])).2, fmCh m 2 (fmA.getD 2 (0, [])).2, fmCh m 3 (fmA.getD 3 (0, [])).2, fmCh m 4 (fmA.getD 4 (0, [])).2, fmCh m 5 (fmA.getD 5 (0, [])).2, fmCh m 6 (fmA.getD 6 (0, [])).2, fmCh m 7 (fmA.getD 7 (0, [])).2, fmCh m 8 (fmA.getD 8 (0, [])).2, fmCh m 9 (fmA.getD 9 (0, [])).2] := rfl
theorem nm_ten (rs : List FileR) (k : Nat) : (nmW rs k).getD 10 0 = 48 + k := by
  unfold nmW nmR
  rw [fmW_ten]; rfl
theorem nmW_inj {rs : List FileR} {j k : Nat} (h : nmW rs j = nmW rs k) : j = k := by
  have := congrArg (fun y : Word => y.getD 10 0) h
  simp only [nm_ten] at this
  omega
theorem nodup_map {α β : Type} {f : α → β} {l : List α} (h : l.Nodup) (hf : ∀ x y, f x = f y → x = y) : (l.map f).Nodup := by
  induction l with
  | nil => exact List.nodup_nil
  | cons x l ih =>
    obtain ⟨h1, h2⟩ := List.nodup_cons.mp h
    refine List.nodup_cons.mpr ⟨fun q => ?_, ih h2⟩
    obtain ⟨y, hy, e⟩ := List.mem_map.mp q
    exact h1 (hf _ _ e ▸ hy)
theorem toldW_nod (rs : List FileR) (T : Int) : (toldW rs T).Nodup := nodup_map (ordW_nod T) fun _ _ => nmW_inj
theorem toldW_all (rs : List FileR) (T : Int) {k : Nat} (hk : k < 5) : nmW rs k ∈ toldW rs T := List.mem_map.mpr ⟨k, ordW_all T hk, rfl⟩
theorem toldW_mem {rs : List FileR} {T : Int} {y : Word} (h : y ∈ toldW rs T) : ∃ k, k < 5 ∧ y = nmW rs k := by
  obtain ⟨k, hk, rfl⟩ := List.mem_map.mp h
  exact ⟨k, ordW_lt T hk, rfl⟩
theorem filter_one {α : Type} {p : α → Bool} {l : List α} (h : l.Nodup) {x : α} (hx : x ∈ l) (hp : ∀ y ∈ l, p y = true ↔ y = x) : l.filter p = [x] := by
  induction l with
  | nil => exact nomatch hx
  | cons y l ih =>
    obtain ⟨h1, h2⟩ := List.nodup_cons.mp h
    rw [List.filter_cons]
    by_cases q : y = x
    · subst q
      rw [if_pos ((hp y (.head _)).mpr rfl), List.filter_eq_nil_iff.mpr fun z hz e => ?_]
      have := (hp z (.tail _ hz)).mp e
      subst this
      exact h1 hz
    · rw [if_neg fun e => q ((hp y (.head _)).mp e)]
      rcases List.mem_cons.mp hx with h | h
      · exact absurd h.symm q
      · exact ih h2 h fun z hz => hp z (.tail _ hz)
theorem ten_one (rs : List FileR) (T : Int) {j : Nat} (hj : j < 5) : tenP (toldW rs T) [48 + j] = [nmW rs j] := by
  unfold tenP
  refine filter_one (toldW_nod rs T) (toldW_all rs T hj) fun y hy => ?_
  obtain ⟨k, _, rfl⟩ := toldW_mem hy
  rw [nm_ten]
  constructor
  · intro e
    have h1 : [48 + k] = [48 + j] := eq_of_beq e
    have h2 : 48 + k = 48 + j := by simpa using h1
    rw [show k = j by omega]
  · intro e
    rw [nmW_inj e]; exact beq_self_eq_true _
theorem bits_of (M m : Nat) (a b : Nat) (hm : ∀ i, m.testBit i = (decide (i = a) || decide (i = b))) : (Builtin.bitAnd (M : Int) (m : Int) == (m : Int)) = (M.testBit a && M.testBit b) := by
  rw [and_nat, Bool.eq_iff_iff, beq_iff_eq, Bool.and_eq_true]
  rw [show (((M &&& m : Nat) : Int) = (m : Int)) ↔ M &&& m = m by omega]
  constructor
  · intro h
    have h1 : ∀ i, (M &&& m).testBit i = m.testBit i := fun i => by rw [h]
    have ha := h1 a
    have hb := h1 b
    rw [Nat.testBit_and, hm] at ha hb
    simp at ha hb
    exact ⟨ha, hb⟩
  · rintro ⟨h1, h2⟩
    refine Nat.eq_of_testBit_eq fun i => ?_
    rw [Nat.testBit_and, hm]
    by_cases q : i = a
    · subst q; simp [h1]
    · by_cases q2 : i = b
      · subst q2; simp [h2]
      · simp [q, q2]
theorem bit_two (M a b m : Nat) (hm : m = 2 ^ a ||| 2 ^ b) : (Builtin.bitAnd (M : Int) (m : Int) == (m : Int)) = (M.testBit a && M.testBit b) := by
  refine bits_of M m a b fun i => ?_
  rw [hm, Nat.testBit_or, Nat.testBit_two_pow, Nat.testBit_two_pow]
  simp only [eq_comm]
theorem bit_one (M a m : Nat) (hm : m = 2 ^ a) : (Builtin.bitAnd (M : Int) (m : Int) == (m : Int)) = M.testBit a := by
  rw [bit_two M a a m (by rw [hm, Nat.or_self]), Bool.and_self]
theorem bit_div (M : Nat) (i n : Nat) (hi : i < 12) (d : Nat) (hd : d = 2 ^ i) : (Builtin.bitAnd (M : Int) 4095 / (d : Int) % 2 == 1) = M.testBit i := by
  subst hd
  rw [show (4095 : Int) = ((4095 : Nat) : Int) from rfl, and_nat, Bool.eq_iff_iff, beq_iff_eq]
  have h := Nat.testBit_and M 4095 i
  rw [show (4095 : Nat).testBit i = true by
    have : ∀ i < 12, (4095 : Nat).testBit i = true := by decide
    exact this i hi, Bool.and_true, Nat.testBit_eq_decide_div_mod_eq] at h
  rw [← h, decide_eq_true_iff]
  rw [show ((M &&& 4095 : Nat) : Int) / ((2 ^ i : Nat) : Int) % 2 = (((M &&& 4095) / 2 ^ i % 2 : Nat) : Int) by simp]
  omega
theorem fm_dir (m : Int) : fmCh m 0 (fmA.getD 0 (0, [])).2 = 100 ↔ (Builtin.bitAnd m 61440 == 16384) = true := by
  have e : fmCh m 0 (fmA.getD 0 (0, [])).2 = match ([(205, 40960, 108), (206, 49152, 115), (207, 32768, 45), (208, 24576, 98), (209, 16384, 100), (210, 8192, 99), (211, 4096, 112)] : List (Addr × Nat × Nat)).find? (fun y => Builtin.bitAnd m 61440 == (y.2.1 : Int)) with
    | some y => y.2.2
    | none => 63 := rfl
  rw [e]
  generalize Builtin.bitAnd m 61440 = v
  by_cases h1 : v = 40960
  · subst h1; decide
  by_cases h2 : v = 49152
  · subst h2; decide
  by_cases h3 : v = 32768
  · subst h3; decide
  by_cases h4 : v = 24576
  · subst h4; decide
  by_cases h5 : v = 16384
  · subst h5; decide
  by_cases h6 : v = 8192
  · subst h6; decide
  by_cases h7 : v = 4096
  · subst h7; decide
  simp [h1, h2, h3, h4, h5, h6, h7]
theorem fm_bit (M k b s : Nat) (a : Addr) (hk : k ≠ 0) : fmCh (M : Int) k [(a, 2 ^ b, s)] = if M.testBit b then s else 45 := by
  unfold fmCh
  rw [List.find?_cons]
  unfold fmHit
  rw [if_neg hk, bit_one M b _ rfl]
  cases M.testBit b <;> simp [hk]
theorem fm_exe (M k x s p q u : Nat) (a a' a'' : Addr) (hk : k ≠ 0) : fmCh (M : Int) k [(a, 2 ^ x ||| 2 ^ s, p), (a', 2 ^ s, q), (a'', 2 ^ x, u)] = if M.testBit x then (if M.testBit s then p else u) else (if M.testBit s then q else 45) := by
  unfold fmCh
  rw [List.find?_cons, List.find?_cons, List.find?_cons]
  unfold fmHit
  rw [if_neg hk, if_neg hk, if_neg hk, bit_two M x s _ rfl, bit_one M x _ rfl, bit_one M s _ rfl]
  cases M.testBit x <;> cases M.testBit s <;> simp [hk]
noncomputable def selW (t0 t1 t2 : Bool) (hs : List Int) : List Int := match hs with
  | [a, b, c] => (if t0 then [a] else []) ++ ((if t1 then [b] else []) ++ (if t2 then [c] else []))
  | _ => []
theorem fm_signs (M : Nat) (c : Nat) (hc : c ≤ 2) : ∃ s0 s1 s2, cutS (fmW (M : Int) 10) (some (3 * c + 1)) (some (3 * c + 4)) = [s0, s1, s2] ∧ decide (s0 ∈ [45, 83, 84]) = !(M.testBit (8 - 3 * c)) ∧ decide (s1 ∈ [45, 83, 84]) = !(M.testBit (7 - 3 * c)) ∧ decide (s2 ∈ [45, 83, 84]) = !(M.testBit (6 - 3 * c)) ∧ decide (s2 ∈ [115, 83, 116, 84]) = M.testBit (11 - c) := by
  rw [fmW_ten]
  have : c = 0 ∨ c = 1 ∨ c = 2 := by omega
  rcases this with rfl | rfl | rfl
  · refine ⟨_, _, _, rfl, ?_, ?_, ?_, ?_⟩
    · rw [show fmCh (M : Int) 1 (fmA.getD 1 (0, [])).2 = _ from fm_bit M 1 8 114 213 (by decide)]; cases M.testBit 8 <;> decide
    · rw [show fmCh (M : Int) 2 (fmA.getD 2 (0, [])).2 = _ from fm_bit M 2 7 119 215 (by decide)]; cases M.testBit 7 <;> decide
    · rw [show fmCh (M : Int) 3 (fmA.getD 3 (0, [])).2 = _ from fm_exe M 3 6 11 115 83 120 217 218 219 (by decide)]; cases M.testBit 6 <;> cases M.testBit 11 <;> decide
    · rw [show fmCh (M : Int) 3 (fmA.getD 3 (0, [])).2 = _ from fm_exe M 3 6 11 115 83 120 217 218 219 (by decide)]; cases M.testBit 6 <;> cases M.testBit 11 <;> decide
  · refine ⟨_, _, _, rfl, ?_, ?_, ?_, ?_⟩
    · rw [show fmCh (M : Int) 4 (fmA.getD 4 (0, [])).2 = _ from fm_bit M 4 5 114 221 (by decide)]; cases M.testBit 5 <;> decide
    · rw [show fmCh (M : Int) 5 (fmA.getD 5 (0, [])).2 = _ from fm_bit M 5 4 119 223 (by decide)]; cases M.testBit 4 <;> decide
    · rw [show fmCh (M : Int) 6 (fmA.getD 6 (0, [])).2 = _ from fm_exe M 6 3 10 115 83 120 225 226 227 (by decide)]; cases M.testBit 3 <;> cases M.testBit 10 <;> decide
    · rw [show fmCh (M : Int) 6 (fmA.getD 6 (0, [])).2 = _ from fm_exe M 6 3 10 115 83 120 225 226 227 (by decide)]; cases M.testBit 3 <;> cases M.testBit 10 <;> decide
  · refine ⟨_, _, _, rfl, ?_, ?_, ?_, ?_⟩
    · rw [show fmCh (M : Int) 7 (fmA.getD 7 (0, [])).2 = _ from fm_bit M 7 2 114 229 (by decide)]; cases M.testBit 2 <;> decide
    · rw [show fmCh (M : Int) 8 (fmA.getD 8 (0, [])).2 = _ from fm_bit M 8 1 119 231 (by decide)]; cases M.testBit 1 <;> decide
    · rw [show fmCh (M : Int) 9 (fmA.getD 9 (0, [])).2 = _ from fm_exe M 9 0 9 116 84 120 233 234 235 (by decide)]; cases M.testBit 0 <;> cases M.testBit 9 <;> decide
    · rw [show fmCh (M : Int) 9 (fmA.getD 9 (0, [])).2 = _ from fm_exe M 9 0 9 116 84 120 233 234 235 (by decide)]; cases M.testBit 0 <;> cases M.testBit 9 <;> decide
theorem digP_sel {s0 s1 s2 : Nat} {t0 t1 t2 : Bool} (h0 : decide (s0 ∈ [45, 83, 84]) = !t0) (h1 : decide (s1 ∈ [45, 83, 84]) = !t1) (h2 : decide (s2 ∈ [45, 83, 84]) = !t2) {hs : List Int} (hl : hs.length = 3 ∨ hs = []) :
    digP [s0, s1, s2] (hs.map fun j => 48 + j.toNat) = (selW t0 t1 t2 hs).map fun j => [48 + j.toNat] := by
  rcases hl with hl | rfl
  · match hs, hl with
    | [a, b, c], _ =>
    simp only [List.map_cons, List.map_nil, digP, h0, h1, h2, selW]
    cases t0 <;> cases t1 <;> cases t2 <;> rfl
  · rfl
theorem seenP_sel (M : Nat) (c : Nat) (hc : c ≤ 2) {hs : List Int} (hl : hs.length = 3 ∨ hs = []) : seenP (Builtin.bitAnd (M : Int) 4095) hs c hs.length = selW (M.testBit (8 - 3 * c)) (M.testBit (7 - 3 * c)) (M.testBit (6 - 3 * c)) hs := by
  rcases hl with hl | rfl
  · match hs, hl with
    | [x, y, z], _ =>
    have hd : ∀ i : Nat, i < 3 → (Builtin.bitAnd (M : Int) 4095 / 8 ^ (2 - (c : Int)).toNat / 2 ^ (2 - (i : Int)).toNat % 2 == 1) = M.testBit (8 - 3 * c - i) := fun i hi => by
      have hp : (0 : Int) ≤ 8 ^ (2 - (c : Int)).toNat := Int.le_of_lt (Int.pow_pos (by decide))
      rw [Int.ediv_ediv_of_nonneg hp]
      refine (congrArg (fun d : Int => Builtin.bitAnd (M : Int) 4095 / d % 2 == 1) ?_).trans (bit_div M (8 - 3 * c - i) 0 (by omega) _ rfl)
      have h1 : c = 0 ∨ c = 1 ∨ c = 2 := by omega
      have h2 : i = 0 ∨ i = 1 ∨ i = 2 := by omega
      rcases h1 with rfl | rfl | rfl <;> rcases h2 with rfl | rfl | rfl <;> rfl
    have e : seenP (Builtin.bitAnd (M : Int) 4095) [x, y, z] c 3 = selW (M.testBit (8 - 3 * c - 0)) (M.testBit (8 - 3 * c - 1)) (M.testBit (8 - 3 * c - 2)) [x, y, z] := by
      unfold seenP
      rw [show List.range 3 = [0, 1, 2] from rfl, List.filter_cons, List.filter_cons, List.filter_cons, List.filter_nil, hd 0 (by decide), hd 1 (by decide), hd 2 (by decide)]
      unfold selW
      cases M.testBit (8 - 3 * c - 0) <;> cases M.testBit (8 - 3 * c - 1) <;> cases M.testBit (8 - 3 * c - 2) <;> rfl
    rw [Nat.sub_zero, show 8 - 3 * c - 1 = 7 - 3 * c by omega, show 8 - 3 * c - 2 = 6 - 3 * c by omega] at e
    exact e
  · rfl
theorem rev_bit (M c : Nat) (hc : c ≤ 2) : (Builtin.bitAnd (M : Int) 4095 / 2 ^ (11 - (c : Int)).toNat % 2 == 1) = M.testBit (11 - c) := by
  refine (congrArg (fun d : Int => Builtin.bitAnd (M : Int) 4095 / d % 2 == 1) ?_).trans (bit_div M (11 - c) 0 (by omega) _ rfl)
  have h1 : c = 0 ∨ c = 1 ∨ c = 2 := by omega
  rcases h1 with rfl | rfl | rfl <;> rfl
theorem flat_ten (rs : List FileR) (T : Int) : ∀ js : List Int, (∀ j ∈ js, 0 ≤ j ∧ j ≤ 4) → (js.map fun j => [48 + j.toNat]).flatMap (tenP (toldW rs T)) = js.map fun j => nmW rs j.toNat
  | [], _ => rfl
  | j :: js, h => by
    have hj := h j (.head _)
    rw [List.map_cons, List.flatMap_cons, List.map_cons, flat_ten rs T js fun x hx => h x (.tail _ hx), ten_one rs T (by omega)]
    rfl
theorem selW_mem {t0 t1 t2 : Bool} {hs : List Int} {j : Int} (h : j ∈ selW t0 t1 t2 hs) : j ∈ hs := by
  unfold selW at h
  split at h
  · rcases List.mem_append.mp h with h | h
    · split at h <;> simp_all
    · rcases List.mem_append.mp h with h | h <;> split at h <;> simp_all
  · cases h
theorem seen_shows {rs : List FileR} (T : Int) {k c : Nat} {r : FileR} (hr : rs[k]? = some r) (hok : FileOk k r) (hc : c ≤ 2) : seenW (nmW rs k) (toldW rs T) c = (showsP r.mode r.held c).map fun j => nmW rs j.toNat := by
  obtain ⟨h1, _, _, h4, h5⟩ := hok
  obtain ⟨M, hM⟩ : ∃ M : Nat, r.mode = (M : Int) := ⟨r.mode.toNat, by omega⟩
  have hl : r.held.length = 3 ∨ r.held = [] := by
    by_cases q : k < 4
    · rw [if_pos q] at h4; exact .inl h4
    · rw [if_neg q] at h4; exact .inr (List.eq_nil_of_length_eq_zero h4)
  have e0 : nmW rs k = fmW r.mode 10 ++ ([48 + k] ++ r.held.map fun j : Int => 48 + j.toNat) := by rw [nmW_at hr]; unfold nmR; rw [List.append_assoc]
  have hfl := fmW_len r.mode 10
  obtain ⟨s0, s1, s2, c0, c1, c2, c3, c4⟩ := fm_signs M c hc
  have e1 : cutS (nmW rs k) (some (3 * c + 1)) (some (3 * c + 4)) = [s0, s1, s2] := by
    rw [← c0, e0, ← hM]
    show ((fmW r.mode 10 ++ _).drop (3 * c + 1)).take (3 * c + 4 - (3 * c + 1)) = ((fmW r.mode 10).drop (3 * c + 1)).take (3 * c + 4 - (3 * c + 1))
    rw [List.drop_append_of_le_length (by omega), List.take_append_of_le_length (by rw [List.length_drop]; omega)]
  have e2 : cutS (nmW rs k) (some 11) none = r.held.map fun j : Int => 48 + j.toNat := by
    rw [e0]
    show ((fmW r.mode 10 ++ ([48 + k] ++ r.held.map fun j : Int => 48 + j.toNat)).drop 11).take ((fmW r.mode 10 ++ ([48 + k] ++ r.held.map fun j : Int => 48 + j.toNat)).length - 11) = _
    rw [List.drop_append, List.drop_eq_nil_of_le (by omega), hfl, List.nil_append]
    show (r.held.map fun j : Int => 48 + j.toNat).take _ = _
    refine List.take_of_length_le ?_
    rw [List.length_append, List.length_append, hfl, List.length_singleton]; omega
  have e3 : (nmW rs k).getD 0 0 = fmCh r.mode 0 (fmA.getD 0 (0, [])).2 := by rw [e0, fmW_ten]; rfl
  unfold seenW showsP
  dsimp only
  rw [e1, e2, e3, digP_sel c1 c2 c3 hl, hM, seenP_sel M c hc hl, rev_bit M c hc, show ([s0, s1, s2] : List Nat).getD 2 0 = s2 from rfl, c4]
  have hsel : ∀ j ∈ selW (M.testBit (8 - 3 * c)) (M.testBit (7 - 3 * c)) (M.testBit (6 - 3 * c)) r.held, 0 ≤ j ∧ j ≤ 4 := fun j hj => by
    have := h5 j (selW_mem hj); omega
  by_cases hd : (Builtin.bitAnd (M : Int) 61440 == 16384) = true
  · rw [if_pos ((fm_dir M).mpr hd), if_pos hd]
    cases M.testBit (11 - c) with
    | true =>
      rw [if_pos rfl, if_pos rfl, ← List.map_reverse, flat_ten rs T _ fun j hj => hsel j (List.mem_reverse.mp hj)]
    | false =>
      rw [if_neg (by decide), if_neg (by decide), flat_ten rs T _ hsel]
  · rw [if_neg fun q => hd ((fm_dir M).mp q), if_neg hd]; rfl
theorem showsP_mem {mode : Int} {hs : List Int} {c : Nat} {j : Int} (h : j ∈ showsP mode hs c) : j ∈ hs := by
  have hs' : ∀ {rights : Int}, j ∈ seenP rights hs c hs.length → j ∈ hs := fun {rights} h => by
    unfold seenP at h
    obtain ⟨i, hi, rfl⟩ := List.mem_map.mp h
    have := List.mem_range.mp (List.mem_filter.mp hi).1
    rw [List.getD_eq_getElem?_getD, List.getElem?_eq_getElem this]
    exact List.getElem_mem _
  unfold showsP at h
  dsimp only at h
  split at h
  · split at h
    · exact hs' (List.mem_reverse.mp h)
    · exact hs' h
  · cases h
theorem showsP_len (mode : Int) (hs : List Int) (c : Nat) : (showsP mode hs c).length ≤ hs.length := by
  unfold showsP
  dsimp only
  split
  · split
    · rw [List.length_reverse]; exact seenP_len ..
    · exact seenP_len ..
  · exact Nat.zero_le _
noncomputable def rkW (y : Word) : Nat := y.getD 10 0
theorem rk_nm (rs : List FileR) (k : Nat) : rkW (nmW rs k) = 48 + k := nm_ten rs k
section
variable {rs : List FileR} {T : Int} {c : Nat} {bl : Bl}
structure BlOk (rs : List FileR) (T : Int) (c : Nat) (bl : Bl) : Prop where
  len : rs.length = 5
  fs : ∀ k r, rs[k]? = some r → FileOk k r
  c2 : c ≤ 2
  v : blV bl = (toldW rs T).map fun y => (y, seenW y (toldW rs T) c)
theorem BlOk.keys (H : BlOk rs T c bl) : bl.map (·.1) = toldW rs T := by
  rw [← blV_keys, H.v, List.map_map]
  exact (List.map_congr_left fun _ _ => rfl).trans (List.map_id _)
theorem BlOk.nod (H : BlOk rs T c bl) : (bl.map (·.1)).Nodup := by rw [H.keys]; exact toldW_nod rs T
noncomputable def shK (rs : List FileR) (c k : Nat) : List Int := (shV rs c).getD k []
theorem shK_at {k : Nat} {r : FileR} (h : rs[k]? = some r) : shK rs c k = showsP r.mode r.held c := by
  unfold shK shV
  rw [List.getD_eq_getElem?_getD, List.getElem?_map, h]; rfl
theorem shK_ok (hl : rs.length = 5) (hf : ∀ k r, rs[k]? = some r → FileOk k r) {k : Nat} (hk : k < 5) : (shK rs c k).length ≤ 3 ∧ ∀ j ∈ shK rs c k, (k : Int) < j ∧ j ≤ 4 := by
  obtain ⟨r, hr⟩ : ∃ r, rs[k]? = some r := ⟨_, List.getElem?_eq_getElem (by omega)⟩
  obtain ⟨_, _, _, h4, h5⟩ := hf k r hr
  rw [shK_at hr]
  refine ⟨Nat.le_trans (showsP_len ..) ?_, fun j hj => h5 j (showsP_mem hj)⟩
  rw [h4]; split <;> decide
theorem BlOk.row (H : BlOk rs T c bl) {x : Word × Addr × List Word} (hx : x ∈ bl) : ∃ k, k < 5 ∧ x.1 = nmW rs k ∧ x.2.2 = (shK rs c k).map fun j => nmW rs j.toNat := by
  have h1 : (x.1, x.2.2) ∈ blV bl := List.mem_map.mpr ⟨x, hx, rfl⟩
  rw [H.v] at h1
  obtain ⟨y, hy, e⟩ := List.mem_map.mp h1
  obtain ⟨k, hk, rfl⟩ := toldW_mem hy
  obtain ⟨r, hr⟩ : ∃ r, rs[k]? = some r := ⟨_, List.getElem?_eq_getElem (by rw [H.len]; exact hk)⟩
  cases x with | mk x1 x2 =>
  cases x2 with | mk x2 x3 =>
  simp only [Prod.mk.injEq] at e
  refine ⟨k, hk, e.1.symm, ?_⟩
  rw [shK_at hr, ← seen_shows T hr (H.fs k r hr) H.c2]
  exact e.2.symm
theorem BlOk.at (H : BlOk rs T c bl) {k : Nat} (hk : k < 5) : chW bl (nmW rs k) = (shK rs c k).map fun j => nmW rs j.toNat := by
  have h1 : nmW rs k ∈ bl.map (·.1) := by rw [H.keys]; exact toldW_all rs T hk
  obtain ⟨x, hx, e⟩ := List.mem_map.mp h1
  obtain ⟨k', _, e1, e2⟩ := H.row hx
  have : k' = k := nmW_inj (e1.symm.trans e)
  subst this
  rw [← e, chW_of H.nod hx, e2]
theorem BlOk.gph (H : BlOk rs T c bl) : Gph (toldW rs T) (chW bl) rkW := by
  have key : ∀ x ∈ toldW rs T, ∀ y ∈ chW bl x, y ∈ toldW rs T ∧ rkW x < rkW y := fun x hx y hy => by
    obtain ⟨k, hk, rfl⟩ := toldW_mem hx
    rw [H.at hk] at hy
    obtain ⟨j, hj, rfl⟩ := List.mem_map.mp hy
    have := (shK_ok H.len H.fs hk).2 j hj
    rw [rk_nm, rk_nm]
    exact ⟨toldW_all rs T (by omega), by omega⟩
  exact ⟨toldW_nod rs T, fun x hx y hy => (key x hx y hy).1, fun x hx y hy => (key x hx y hy).2⟩
theorem BlOk.roots (H : BlOk rs T c bl) : rootsW bl = Mine.roots (toldW rs T) (chW bl) := by
  have e : shownW bl = (toldW rs T).flatMap (chW bl) := by
    rw [← H.keys, List.flatMap_map]
    unfold shownW
    rw [List.flatMap_def, List.flatMap_def]
    exact congrArg _ (List.map_congr_left fun x hx => (chW_of H.nod hx).symm)
  unfold rootsW Mine.roots
  rw [e, H.keys]
theorem BlOk.iter (H : BlOk rs T c bl) : ∀ k, ∀ y ∈ iterW bl k, y ∈ toldW rs T ∧ 48 + k ≤ rkW y
  | 0, y, h => by
    have h0 : y ∈ rootsW bl := h
    rw [H.roots] at h0
    have h1 := (mem_roots.mp h0).1
    obtain ⟨k, _, rfl⟩ := toldW_mem h1
    exact ⟨h1, by rw [rk_nm]; omega⟩
  | k + 1, y, h => by
    obtain ⟨x, h1, h2⟩ := List.mem_flatMap.mp (show y ∈ (iterW bl k).flatMap (chW bl) from h)
    obtain ⟨h3, h4⟩ := H.iter k x h1
    have := H.gph.up x h3 y h2
    exact ⟨H.gph.cl x h3 y h2, by omega⟩
theorem BlOk.stop (H : BlOk rs T c bl) {k : Nat} (hk : 5 ≤ k) : iterW bl k = [] := by
  cases e : iterW bl k with
  | nil => rfl
  | cons y r =>
    obtain ⟨h1, h2⟩ := H.iter k y (by rw [e]; exact .head _)
    obtain ⟨j, hj, rfl⟩ := toldW_mem h1
    rw [rk_nm] at h2; omega
theorem BlOk.len3 (H : BlOk rs T c bl) {y : Word} (hy : y ∈ toldW rs T) : (chW bl y).length ≤ 3 := by
  obtain ⟨k, hk, rfl⟩ := toldW_mem hy
  rw [H.at hk, List.length_map]
  exact (shK_ok H.len H.fs hk).1
theorem flat3 {f : Word → List Word} : ∀ {q : List Word}, (∀ y ∈ q, (f y).length ≤ 3) → (q.flatMap f).length ≤ q.length * 3
  | [], _ => Nat.le_refl _
  | y :: q, h => by
    have h1 := h y (.head _)
    have h2 := flat3 fun z hz => h z (.tail y hz)
    rw [List.flatMap_cons, List.length_append, List.length_cons, Nat.succ_mul]; omega
theorem BlOk.grow (H : BlOk rs T c bl) : ∀ k, (iterW bl k).length ≤ 5 * 3 ^ k
  | 0 => by
    show (rootsW bl).length ≤ 5
    rw [H.roots]
    refine Nat.le_trans (List.length_filter_le ..) ?_
    unfold toldW
    rw [List.length_map, ordW_len]
    exact Nat.le_refl _
  | k + 1 => by
    have h1 := H.grow k
    have h2 := flat3 (f := chW bl) (q := iterW bl k) fun y hy => H.len3 (H.iter k y hy).1
    show ((iterW bl k).flatMap (chW bl)).length ≤ _
    rw [Nat.pow_succ]; omega
theorem BlOk.small (H : BlOk rs T c bl) (k : Nat) : (iterW bl k).length ≤ 1000 := by
  by_cases q : 5 ≤ k
  · rw [H.stop q]; exact Nat.zero_le _
  · refine Nat.le_trans (H.grow k) ?_
    have : ∀ k < 5, 5 * 3 ^ k ≤ 1000 := by decide
    exact this k (by omega)
theorem least {f : Nat → List Word} : ∀ M, f M = [] → ∃ N, N ≤ M ∧ f N = [] ∧ ∀ k < N, f k ≠ []
  | 0, h => ⟨0, Nat.le_refl _, h, fun _ h => absurd h (Nat.not_lt_zero _)⟩
  | M + 1, h => by
    by_cases q : ∃ k, k ≤ M ∧ f k = []
    · obtain ⟨k, hk, e⟩ := q
      obtain ⟨N, h1, h2, h3⟩ := least k e
      exact ⟨N, by omega, h2, h3⟩
    · exact ⟨M + 1, Nat.le_refl _, h, fun k hk e => q ⟨k, by omega, e⟩⟩
  termination_by M => M
theorem BlOk.levels (H : BlOk rs T c bl) : ∃ N, N ≤ 5 ∧ Lvs (toldW rs T) (chW bl) (iterW bl) N := by
  obtain ⟨N, h1, h2, h3⟩ := least 5 (H.stop (Nat.le_refl _))
  exact ⟨N, h1, H.roots, fun _ => rfl, h2, h3⟩
end
theorem succ_set {ds : List Nd} {z u : Word} {f : Nd → Nd} (hf : ∀ d, (f d).name = d.name) :
    succOf (setN ds z f) u = if u = z then ((ds.find? fun d => d.name == u).map fun d => (f d).succ).getD [] else succOf ds u := by
  unfold succOf setN
  induction ds with
  | nil => split <;> rfl
  | cons d r ih =>
    have hn : (if (d.name == z) = true then f d else d).name = d.name := by split <;> simp [hf]
    rw [List.map_cons, List.find?_cons, List.find?_cons, hn]
    by_cases q : d.name = u
    · simp only [q, beq_self_eq_true, Option.map_some, Option.getD_some, beq_iff_eq]
      by_cases e : u = z
      · rw [if_pos e, if_pos e]
      · rw [if_neg e, if_neg e]
    · have q' : (d.name == u) = false := by simpa using q
      rw [q']
      exact ih
theorem succ_np {ds : List Nd} {y u : Word} {v : Int} : succOf (setN ds y (addNp v)) u = succOf ds u := by
  rw [succ_set (f := addNp v) fun _ => rfl]
  split
  · rfl
  · rfl
theorem succ_add {ds : List Nd} {y z u : Word} (hu : u ∈ names ds) : succOf (setN ds z (addSucc y)) u = succOf ds u ++ if u = z then [y] else [] := by
  obtain ⟨d, hd⟩ := find_name hu
  rw [succ_set (f := addSucc y) fun _ => rfl]
  unfold succOf
  rw [hd]
  by_cases q : u = z
  · rw [if_pos q, if_pos q]; rfl
  · rw [if_neg q, if_neg q, List.append_nil]
theorem succ_adds {y u : Word} : ∀ (zs : List Word) {ds : List Nd}, zs.Nodup → u ∈ names ds → succOf (zs.foldl (fun ds z => setN ds z (addSucc y)) ds) u = succOf ds u ++ if u ∈ zs then [y] else []
  | [], _, _, _ => by simp
  | z :: zs, ds, hn, hu => by
    obtain ⟨h1, h2⟩ := List.nodup_cons.mp hn
    have hnm : names (setN ds z (addSucc y)) = names ds := setN_names fun _ => rfl
    rw [List.foldl_cons, succ_adds zs h2 (by rw [hnm]; exact hu), succ_add hu, List.append_assoc]
    congr 1
    by_cases q : u = z
    · subst q
      rw [if_pos rfl, if_neg h1, if_pos (.head _)]; rfl
    · rw [if_neg q, List.nil_append]
      by_cases q2 : u ∈ zs
      · rw [if_pos q2, if_pos (.tail _ q2)]
      · rw [if_neg q2, if_neg fun h => (List.mem_cons.mp h).elim q q2]
theorem succ_addP {ds : List Nd} {y u : Word} {zs : List Word} (hn : zs.Nodup) (hu : u ∈ names ds) : succOf (addP ds y zs) u = succOf ds u ++ if u ∈ zs then [y] else [] := by
  unfold addP
  rw [succ_adds zs hn (by rw [setN_names (f := addNp zs.length) fun _ => rfl]; exact hu), succ_np]
noncomputable def tot (ds : List Nd) (y : Word) : Nat := (ds.flatMap (·.succ)).count y
theorem tot_np (ds : List Nd) (z y : Word) (v : Int) : tot (setN ds z (addNp v)) y = tot ds y := by
  unfold tot setN
  rw [List.flatMap_map]
  refine congrArg (List.count y) ?_
  rw [List.flatMap_def, List.flatMap_def]
  refine congrArg _ (List.map_congr_left fun d _ => ?_)
  split <;> rfl
theorem tot_add {y z u : Word} : ∀ {ds : List Nd}, (names ds).Nodup → z ∈ names ds → tot (setN ds z (addSucc y)) u = tot ds u + if u = y then 1 else 0
  | [], _, h => nomatch h
  | d :: r, hn, hz => by
    obtain ⟨h1, h2⟩ := List.nodup_cons.mp (show (d.name :: names r).Nodup from hn)
    have e : tot (setN (d :: r) z (addSucc y)) u = ((if d.name == z then addSucc y d else d).succ).count u + tot (setN r z (addSucc y)) u := by
      unfold tot setN
      rw [List.map_cons, List.flatMap_cons, List.count_append]
    have e2 : tot (d :: r) u = d.succ.count u + tot r u := by
      unfold tot
      rw [List.flatMap_cons, List.count_append]
    rw [e, e2]
    by_cases q : d.name = z
    · subst q
      rw [setN_off h1, if_pos (beq_self_eq_true _)]
      show (d.succ ++ [y]).count u + _ = _
      rw [List.count_append, List.count_singleton]
      by_cases q2 : u = y
      · subst q2; rw [if_pos (beq_self_eq_true _), if_pos rfl]; omega
      · rw [if_neg (show ¬ (y == u) = true by simpa using fun h => q2 h.symm), if_neg q2]; omega
    · have hz' : z ∈ names r := (List.mem_cons.mp hz).resolve_left fun h => q h.symm
      rw [tot_add h2 hz', if_neg (show ¬ (d.name == z) = true by simpa using q)]; omega
theorem tot_adds {y u : Word} : ∀ (zs : List Word) {ds : List Nd}, (names ds).Nodup → (∀ z ∈ zs, z ∈ names ds) → tot (zs.foldl (fun ds z => setN ds z (addSucc y)) ds) u = tot ds u + if u = y then zs.length else 0
  | [], _, _, _ => by simp
  | z :: zs, ds, hn, hz => by
    have hnm : names (setN ds z (addSucc y)) = names ds := setN_names fun _ => rfl
    rw [List.foldl_cons, tot_adds zs (by rw [hnm]; exact hn) (by rw [hnm]; exact fun x hx => hz x (.tail _ hx)), tot_add hn (hz z (.head _)), List.length_cons]
    split <;> omega
theorem tot_addP {ds : List Nd} {y u : Word} {zs : List Word} (hn : (names ds).Nodup) (hz : ∀ z ∈ zs, z ∈ names ds) : tot (addP ds y zs) u = tot ds u + if u = y then zs.length else 0 := by
  have hnm : names (setN ds y (addNp zs.length)) = names ds := setN_names fun _ => rfl
  unfold addP
  rw [tot_adds zs (by rw [hnm]; exact hn) (by rw [hnm]; exact hz), tot_np]
theorem np_adds {y u : Word} : ∀ (zs : List Word) {ds : List Nd}, u ∈ names ds → npOf (zs.foldl (fun ds z => setN ds z (addSucc y)) ds) u = npOf ds u
  | [], _, _ => rfl
  | z :: zs, ds, hu => by
    have hnm : names (setN ds z (addSucc y)) = names ds := setN_names fun _ => rfl
    rw [List.foldl_cons, np_adds zs (by rw [hnm]; exact hu), np_set (f := addSucc y) (fun _ => rfl) hu]
    split
    · rfl
    · rfl
theorem np_addP {ds : List Nd} {y u : Word} {zs : List Word} (hu : u ∈ names ds) : npOf (addP ds y zs) u = npOf ds u + if u = y then (zs.length : Int) else 0 := by
  have hnm : names (setN ds y (addNp zs.length)) = names ds := setN_names fun _ => rfl
  obtain ⟨d, hd⟩ := find_name hu
  unfold addP
  rw [np_adds zs (by rw [hnm]; exact hu), np_set (f := addNp zs.length) (fun _ => rfl) hu]
  unfold npOf
  rw [hd]
  split
  · rfl
  · exact (Int.add_zero _).symm
noncomputable def CntOk (ds : List Nd) : Prop := ∀ u ∈ names ds, npOf ds u = (tot ds u : Int)
theorem CntOk.add {ds : List Nd} {y : Word} {zs : List Word} (h : CntOk ds) (hn : (names ds).Nodup) (hz : ∀ z ∈ zs, z ∈ names ds) : CntOk (addP ds y zs) := fun u hu => by
  rw [addP_names] at hu
  rw [np_addP hu, tot_addP hn hz, h u hu]
  split <;> simp
section
variable {rs : List FileR} {T : Int} {xv : List (List Int)} {ds ds0 : List Nd} {p j k : Nat}
theorem predW_nod : (predW rs T xv p j).Nodup := nodup_map ((ordW_nod T).filter _) fun _ _ => nmW_inj
theorem predW_sub : ∀ z ∈ predW rs T xv p j, z ∈ toldW rs T := fun z hz => by
  obtain ⟨k, hk, rfl⟩ := List.mem_map.mp hz
  exact List.mem_map.mpr ⟨k, (List.mem_filter.mp hk).1, rfl⟩
theorem predW_mem (hk : k < 5) : nmW rs k ∈ predW rs T xv p j ↔ atP (xv.getD k []) p = [(j : Int)] := by
  unfold predW predK
  rw [List.mem_map]
  constructor
  · rintro ⟨k', h, e⟩
    rw [nmW_inj e] at h
    exact eq_of_beq (List.mem_filter.mp h).2
  · intro h
    exact ⟨k, List.mem_filter.mpr ⟨ordW_all T hk, by rw [h]; exact beq_self_eq_true _⟩, rfl⟩
noncomputable def partW (rs : List FileR) (v : List Int) (p : Nat) : Nat → List Word
  | 0 => []
  | j + 1 => partW rs v p j ++ if atP v p = [((j + 1 : Nat) : Int)] then [nmW rs (j + 1)] else []
theorem succ_pl (hn : names ds = toldW rs T) (hk : k < 5) : ∀ j, succOf (addPl rs T xv p ds j) (nmW rs k) = succOf ds (nmW rs k) ++ partW rs (xv.getD k []) p j
  | 0 => (List.append_nil _).symm
  | j + 1 => by
    show succOf (addP (addPl rs T xv p ds j) _ _) _ = _
    rw [succ_addP predW_nod (by rw [addPl_names, hn]; exact toldW_all rs T hk), succ_pl hn hk j, List.append_assoc]
    congr 1
    rw [show partW rs (xv.getD k []) p (j + 1) = partW rs (xv.getD k []) p j ++ if atP (xv.getD k []) p = [((j + 1 : Nat) : Int)] then [nmW rs (j + 1)] else [] from rfl]
    congr 1
    by_cases q : atP (xv.getD k []) p = [((j + 1 : Nat) : Int)]
    · rw [if_pos ((predW_mem hk).mpr q), if_pos q]
    · rw [if_neg fun h => q ((predW_mem hk).mp h), if_neg q]
theorem part_four {v : List Int} (hv : ∀ j ∈ v, 0 < j ∧ j ≤ 4) : partW rs v p 4 = (atP v p).map fun j => nmW rs j.toNat := by
  have hl : (atP v p).length ≤ 1 := by unfold atP; rw [List.length_take]; omega
  have hm : ∀ j ∈ atP v p, 0 < j ∧ j ≤ 4 := fun j hj => hv j (List.mem_of_mem_drop (List.mem_of_mem_take hj))
  unfold partW partW partW partW partW
  generalize atP v p = u at *
  match u, hl with
  | [], _ => rfl
  | [j], _ =>
    have h := hm j (.head _)
    obtain ⟨k, rfl⟩ := Int.eq_ofNat_of_zero_le (Int.le_of_lt h.1)
    have key : ∀ k : Nat, k ≤ 4 → 0 < k → ∀ f : Nat → Word, ((([] ++ if ([(k : Int)] : List Int) = [((0 + 1 : Nat) : Int)] then [f (0 + 1)] else []) ++ if ([(k : Int)] : List Int) = [((1 + 1 : Nat) : Int)] then [f (1 + 1)] else []) ++ if ([(k : Int)] : List Int) = [((2 + 1 : Nat) : Int)] then [f (2 + 1)] else []) ++ (if ([(k : Int)] : List Int) = [((3 + 1 : Nat) : Int)] then [f (3 + 1)] else []) = [f k] := fun k h1 h2 f => by
      match k, h1, h2 with
      | 1, _, _ => rfl
      | 2, _, _ => rfl
      | 3, _, _ => rfl
      | 4, _, _ => rfl
    exact key k (Int.ofNat_le.mp h.2) (Int.ofNat_lt.mp h.1) (nmW rs)
theorem at_three {v : List Int} (h : v.length ≤ 3) : atP v 0 ++ (atP v 1 ++ atP v 2) = v := by
  match v, h with
  | [], _ => rfl
  | [_], _ => rfl
  | [_, _], _ => rfl
  | [_, _, _], _ => rfl
theorem succ_all (hn : names ds0 = toldW rs T) (h0 : succOf ds0 (nmW rs k) = []) (hk : k < 5) (hl : (xv.getD k []).length ≤ 3) (hv : ∀ j ∈ xv.getD k [], 0 < j ∧ j ≤ 4) :
    succOf (addAll rs T xv ds0 3) (nmW rs k) = (xv.getD k []).map fun j => nmW rs j.toNat := by
  have hs : ∀ p, succOf (addAll rs T xv ds0 (p + 1)) (nmW rs k) = succOf (addAll rs T xv ds0 p) (nmW rs k) ++ (atP (xv.getD k []) p).map fun j => nmW rs j.toNat := fun p => by
    show succOf (addPl rs T xv p (addAll rs T xv ds0 p) 4) _ = _
    rw [succ_pl (by rw [addAll_names, hn]) hk, part_four hv]
  rw [hs, hs, hs]
  show ((succOf ds0 _ ++ _) ++ _) ++ _ = _
  rw [h0, List.nil_append, List.append_assoc, ← List.map_append, ← List.map_append, at_three hl]
theorem cnt_pl (hn : names ds = toldW rs T) (h : CntOk ds) : ∀ j, CntOk (addPl rs T xv p ds j)
  | 0 => h
  | j + 1 => by
    refine CntOk.add (cnt_pl hn h j) ?_ ?_
    · rw [addPl_names, hn]; exact toldW_nod rs T
    · rw [addPl_names, hn]; exact predW_sub
theorem cnt_all (hn : names ds0 = toldW rs T) (h : CntOk ds0) : ∀ p, CntOk (addAll rs T xv ds0 p)
  | 0 => h
  | p + 1 => cnt_pl (by rw [addAll_names, hn]) (cnt_all hn h p) 4
end
theorem find_nod {ds : List Nd} (hn : (names ds).Nodup) {d : Nd} (hd : d ∈ ds) : ds.find? (fun x => x.name == d.name) = some d := by
  induction ds with
  | nil => exact nomatch hd
  | cons e r ih =>
    obtain ⟨h1, h2⟩ := List.nodup_cons.mp (show (e.name :: names r).Nodup from hn)
    rw [List.find?_cons]
    rcases List.mem_cons.mp hd with rfl | hd
    · rw [beq_self_eq_true]
    · have q : (e.name == d.name) = false := by
        simpa using fun q : e.name = d.name => h1 (q ▸ List.mem_map.mpr ⟨d, hd, rfl⟩)
      rw [q]; exact ih h2 hd
theorem succ_nod {ds : List Nd} (hn : (names ds).Nodup) {d : Nd} (hd : d ∈ ds) : succOf ds d.name = d.succ := by unfold succOf; rw [find_nod hn hd]; rfl
theorem np_nod {ds : List Nd} (hn : (names ds).Nodup) {d : Nd} (hd : d ∈ ds) : npOf ds d.name = d.np := by unfold npOf; rw [find_nod hn hd]; rfl
theorem tot_deg {ds : List Nd} {g : Word → List Word} (hn : (names ds).Nodup) (hg : ∀ y ∈ names ds, succOf ds y = g y) (y : Word) : tot ds y = degW (names ds) g y := by
  unfold tot degW names
  refine congrArg (List.count y) ?_
  rw [List.flatMap_map, List.flatMap_def, List.flatMap_def]
  refine congrArg _ (List.map_congr_left fun d hd => ?_)
  rw [← hg d.name (List.mem_map.mpr ⟨d, hd, rfl⟩), succ_nod hn hd]
theorem ready_roots {ds : List Nd} {g : Word → List Word} (hn : (names ds).Nodup) (hg : ∀ y ∈ names ds, succOf ds y = g y) (hc : CntOk ds) : readyW ds = roots (names ds) g := by
  unfold readyW roots
  have key : ∀ d ∈ ds, (d.np == 0) = !(((names ds).flatMap g).any (· == d.name)) := fun d hd => by
    have h1 := hc d.name (List.mem_map.mpr ⟨d, hd, rfl⟩)
    rw [np_nod hn hd, tot_deg hn hg] at h1
    rw [h1, Bool.eq_iff_iff, Bool.not_eq_true', ← Bool.not_eq_true, List.any_eq_true, beq_iff_eq]
    unfold degW
    constructor
    · rintro h ⟨x, hx, e⟩
      have := List.count_pos_iff.mpr (eq_of_beq e ▸ hx)
      omega
    · intro h
      have : ((names ds).flatMap g).count d.name = 0 := List.count_eq_zero.mpr fun q => h ⟨_, q, beq_self_eq_true _⟩
      omega
  generalize ((names ds).flatMap g) = X at key
  unfold names
  clear hn hg hc
  induction ds with
  | nil => rfl
  | cons d r ih =>
    rw [List.filter_cons, List.map_cons, List.filter_cons, key d (.head _)]
    cases !(X.any (· == d.name)) with
    | true => rw [if_pos rfl, if_pos rfl, List.map_cons, ih fun x hx => key x (.tail _ hx)]
    | false => rw [if_neg (by decide), if_neg (by decide), ih fun x hx => key x (.tail _ hx)]
structure Told (rs : List FileR) (T : Int) (c : Nat) (bl : Bl) (ds : List Nd) : Prop where
  nm : names ds = toldW rs T
  sc : ∀ y ∈ toldW rs T, succOf ds y = chW bl y
  cn : CntOk ds
  sl : ∀ d ∈ ds, d.succ.length ≤ 60
section
variable {rs : List FileR} {T : Int} {c : Nat} {bl : Bl} {ds ds0 : List Nd}
theorem told_of (H : BlOk rs T c bl) (h0 : ds0.map ndV = (toldW rs T).map fun y => (y, 0, [])) : Told rs T c bl (addAll rs T (shV rs c) ds0 3) := by
  have hnm : names ds0 = toldW rs T := by
    have := congrArg (List.map (·.1)) h0
    rw [List.map_map, List.map_map] at this
    exact this.trans ((List.map_congr_left fun _ _ => rfl).trans (List.map_id _))
  have hd : ∀ d ∈ ds0, d.np = 0 ∧ d.succ = [] := fun d hd => by
    have h1 : ndV d ∈ ds0.map ndV := List.mem_map.mpr ⟨d, hd, rfl⟩
    rw [h0] at h1
    obtain ⟨y, _, e⟩ := List.mem_map.mp h1
    simp only [ndV, Prod.mk.injEq] at e
    exact ⟨e.2.1.symm, e.2.2.symm⟩
  have hn0 : (names ds0).Nodup := by rw [hnm]; exact toldW_nod rs T
  have hs0 : ∀ y ∈ toldW rs T, succOf ds0 y = [] := fun y hy => by
    rw [← hnm] at hy
    obtain ⟨d, h1, rfl⟩ := List.mem_map.mp hy
    rw [succ_nod hn0 h1, (hd d h1).2]
  have hc0 : CntOk ds0 := fun y hy => by
    obtain ⟨d, h1, rfl⟩ := List.mem_map.mp hy
    rw [np_nod hn0 h1, (hd d h1).1]
    have : tot ds0 d.name = 0 := by
      unfold tot
      refine List.count_eq_zero.mpr fun q => ?_
      obtain ⟨e, h2, h3⟩ := List.mem_flatMap.mp q
      rw [(hd e h2).2] at h3
      cases h3
    rw [this]; rfl
  refine ⟨(addAll_names ..).trans hnm, fun y hy => ?_, cnt_all hnm hc0 3, fun d h1 => addAll_len rs T (shV rs c) ds0 (fun d h => by rw [(hd d h).2]; rfl) 3 d h1⟩
  have hy0 := hs0 y hy
  obtain ⟨k, hk, rfl⟩ := toldW_mem hy
  obtain ⟨h1, h2⟩ := shK_ok (c := c) H.len H.fs hk
  rw [H.at hk]
  exact succ_all hnm hy0 hk h1 fun j hj => by have := h2 j hj; omega
theorem Told.nod (H : Told rs T c bl ds) : (names ds).Nodup := by rw [H.nm]; exact toldW_nod rs T
theorem Told.sim (H : Told rs T c bl ds) : Sim (toldW rs T) (chW bl) (ds, readyW ds) [] [] [] := by
  have hg : ∀ y ∈ names ds, succOf ds y = chW bl y := by rw [H.nm]; exact H.sc
  refine ⟨H.nm, H.sc, fun y hy => ?_, ?_, fun _ h => nomatch h⟩
  · rw [if_neg (fun h => nomatch h), if_neg (fun h => nomatch h)]
    rw [← H.nm] at hy
    rw [show npOf (ds, readyW ds).1 y = (tot ds y : Int) from H.cn y hy, tot_deg H.nod hg, H.nm]
    simp
  · show [] ++ readyW ds = roots _ _ ++ []
    rw [ready_roots H.nod hg H.cn, H.nm]; simp
theorem Told.rk (H : Told rs T c bl ds) (K : BlOk rs T c bl) : ∀ d ∈ ds, ∀ y ∈ d.succ, y ∈ names ds ∧ rkW d.name < rkW y := fun d hd y hy => by
  have hdn : d.name ∈ names ds := List.mem_map.mpr ⟨d, hd, rfl⟩
  rw [← succ_nod H.nod hd] at hy
  rw [H.nm] at hdn ⊢
  rw [H.sc _ hdn] at hy
  exact ⟨K.gph.cl _ hdn y hy, K.gph.up _ hdn y hy⟩
theorem Told.len (H : Told rs T c bl ds) : ds.length = 5 := by
  have := congrArg List.length H.nm
  unfold names toldW at this
  rw [List.length_map, List.length_map, ordW_len] at this
  exact this
theorem rem_le {ds : List Nd} (h : ∀ d ∈ ds, d.succ.length ≤ 60) : rem ds [] ≤ 62 * ds.length := by
  unfold rem
  induction ds with
  | nil => exact Nat.le_refl _
  | cons d r ih =>
    have h1 := h d (.head _)
    have h2 := ih fun x hx => h x (.tail _ hx)
    rw [List.map_cons, List.sum_cons, List.length_cons]
    simp only [List.any_nil, Bool.false_eq_true, if_false] at h2 ⊢
    omega
theorem Told.rem (H : Told rs T c bl ds) : Mine.rem ds [] ≤ 1000 := by
  have := rem_le H.sl
  rw [H.len] at this; omega
theorem Told.small (H : Told rs T c bl ds) (K : BlOk rs T c bl) (y : Word) : (succOf ds y).length ≤ 100 ∧ ∀ s ∈ succOf ds y, s ∈ names ds := by
  by_cases q : y ∈ names ds
  · have hy := q
    rw [H.nm] at hy
    rw [H.sc y hy, H.nm]
    exact ⟨Nat.le_trans (K.len3 hy) (by decide), K.gph.cl y hy⟩
  · have : succOf ds y = [] := by
      unfold succOf
      rw [List.find?_eq_none.mpr fun d hd => ?_]
      · rfl
      · exact fun e => q (List.mem_map.mpr ⟨d, hd, eq_of_beq e⟩)
    rw [this]
    exact ⟨Nat.zero_le _, fun _ h => nomatch h⟩
theorem Told.stages (H : Told rs T c bl ds) (K : BlOk rs T c bl) {N : Nat} (V : Lvs (toldW rs T) (chW bl) (iterW bl) N) (hN : N ≤ 5) :
    Hand01 (ds, readyW ds) (lastW (levelsW bl N)) ∧ Hand2 (ds, readyW ds) (lastW (levelsW bl N)).flatten ∧ (lastW (levelsW bl N)).length ≤ 100 ∧ (lastW (levelsW bl N)).flatten.length ≤ 1000 ∧ ∀ y ∈ lastW (levelsW bl N), y.length ≤ 100 ∧ ∀ z ∈ y, z ∈ names ds := by
  have G := K.gph
  have D := V.due G
  have S := V.stg G
  rw [(last_eq _).1]
  unfold levelsW
  have hfl := lst_flat ((List.range N).map (iterW bl))
  have hlen : (lstW ((List.range N).map (iterW bl))).length = N := by rw [lst_len, List.length_map, List.length_range]
  have hdl : (ld ((List.range N).map (iterW bl)).flatten).length = 5 := by
    rw [(D.perm G).length_eq]
    unfold toldW
    rw [List.length_map, ordW_len]
  refine ⟨hand01 G D S H.sim, ?_, by omega, by rw [hfl, hdl]; decide, fun y hy => ?_⟩
  · rw [hfl]
    exact hand2 G D H.sim (by rw [hdl]; decide)
  · have hsub : ∀ z ∈ y, z ∈ ld ((List.range N).map (iterW bl)).flatten := fun z hz => by
      rw [← hfl]; exact List.mem_flatten.mpr ⟨y, hy, hz⟩
    refine ⟨?_, fun z hz => by rw [H.nm]; exact D.sub z (hsub z hz)⟩
    obtain ⟨k, hk, e⟩ := List.mem_iff_getElem.mp hy
    have h1 := flat_take (st := lstW ((List.range N).map (iterW bl))) (k := k) (ys := y) (by rw [List.getElem?_eq_getElem hk, e])
    have h2 : (lstW ((List.range N).map (iterW bl))).flatten = (((lstW ((List.range N).map (iterW bl))).take k).flatten ++ y) ++ ((lstW ((List.range N).map (iterW bl))).drop (k + 1)).flatten := by
      rw [← h1, ← List.flatten_append, List.take_append_drop]
    have h3 := congrArg List.length h2
    rw [hfl, hdl, List.length_append, List.length_append] at h3
    omega
end
section
variable {G : Gr} {w : World} {l : List Ent} {n : Nat} {KV : Pt → List Ent → Prop}
theorem b_turn {la : LwA} {lb : LwB} {lx : LexA} {ta : Addr} {rs : List FileR} {T : Int} {t : Word} {c : Nat} {env : Env} {KF : Fl → List Ent → Prop} (B : Bx G w 20) (en : En env la.L f304.scope (lwC la)) (hA : B.A.frames = some [env]) (hf : env.frame = some la.L) (hrl : rs.length = 5) (hrf : ∀ k r, rs[k]? = some r → FileOk k r) (hc : c ≤ 2)
    (h : ∀ l', Im l' (lw5 la lb lx t t.length ta rs T none none none none [("below", none), ("stages", none), ("sorter", none), ("k", none)] l) → KF .next l') :
    WF B (lw5 la lb lx t t.length ta rs T none none (some (.int c)) none [("below", none), ("stages", none), ("sorter", none), ("k", none)] l) (execs cBody env) KF := by
  have hnd := toldW_nod rs T
  have hok := toldW_ok (T := T) hrl hrf
  have hto5 : (toldW rs T).length = 5 := by unfold toldW; rw [List.length_map, ordW_len]
  refine b_below B en hrl hrf hnd hc fun ba bl hbl => ?_
  have K : BlOk rs T c bl := ⟨hrl, hrf, hc, hbl⟩
  obtain ⟨N, hN, V⟩ := K.levels
  have hrow : ∀ x ∈ bl, x.2.2.length ≤ 1000 ∧ ∀ y ∈ x.2.2, y ∈ bl.map (·.1) := fun x hx => by
    have hx1 : x.1 ∈ toldW rs T := by rw [← K.keys]; exact List.mem_map.mpr ⟨x, hx, rfl⟩
    rw [← chW_of K.nod hx, K.keys]
    exact ⟨Nat.le_trans (K.len3 hx1) (by decide), K.gph.cl _ hx1⟩
  refine b_stages (N := N) B en (by omega) V.e V.ne K.small (by rw [← List.length_map (f := (·.1)), K.keys, hto5]; exact Nat.le_refl _) K.nod (fun x hx => (hrow x hx).2) (fun x hx => (hrow x hx).1) fun sg ts hts => ?_
  refine b_shows B en hrl hrf hc fun sh xs hxs => ?_
  refine b_new B en fun S D n2 => ?_
  refine b_adds B en hnd fun ds0 hds0 => ?_
  have hn0 : names ds0 = toldW rs T := by
    have := congrArg (List.map (·.1)) hds0
    rw [List.map_map, List.map_map] at this
    exact this.trans ((List.map_congr_left fun _ _ => rfl).trans (List.map_id _))
  have hs0 : ∀ d ∈ ds0, d.succ.length = 0 := fun d hd => by
    have h1 : ndV d ∈ ds0.map ndV := List.mem_map.mpr ⟨d, hd, rfl⟩
    rw [hds0] at h1
    obtain ⟨y, _, e⟩ := List.mem_map.mp h1
    simp only [ndV, Prod.mk.injEq] at e
    rw [← e.2.2]; rfl
  have hxl : xs.length = 5 := by
    have := congrArg List.length hxs
    unfold shV at this
    rw [List.length_map, List.length_map] at this
    omega
  have Q := told_of K hds0
  rw [← hxs] at Q
  refine b_places B en hxl (fun x hx => ?_) hnd (toldW_all rs T) hn0 hs0 ?_
  · have h1 : x.2 ∈ shV rs c := by rw [← hxs]; exact List.mem_map.mpr ⟨x, hx, rfl⟩
    obtain ⟨r, hr, e⟩ := List.mem_map.mp h1
    obtain ⟨k, hk, e2⟩ := List.mem_iff_getElem.mp hr
    have := (hrf k r (by rw [List.getElem?_eq_getElem hk, e2])).2.2.2.1
    rw [← e]
    refine Nat.le_trans (showsP_len ..) ?_
    rw [this]; split <;> decide
  generalize addAll rs T (xs.map (·.2)) ds0 3 = ds at Q ⊢
  obtain ⟨y, ys, hto⟩ := List.exists_cons_of_ne_nil (show toldW rs T ≠ [] from fun e => by rw [e] at hto5; cases hto5)
  refine b_prep (rk := rkW) B en hA hf hto (by rw [hto, List.length_cons] at hto5; omega) Q.nod Q.rem (by rw [Q.len]; decide) (Q.rk K) fun ra => ?_
  obtain ⟨z1, z2, z3, z4, z5⟩ := Q.stages K V hN
  rw [← hts] at z1 z2 z3 z4 z5
  refine b_handed B en hc Q.nod (Q.small K) (fun x hx => ?_) (by rw [List.length_map] at z3; exact z3) ?_ z4 (fun _ => z1) (fun _ => z2) h
  · obtain ⟨h1, h2⟩ := z5 x.2 (List.mem_map.mpr ⟨x, hx, rfl⟩)
    refine ⟨h1, h2, fun z hz => (hok z ?_).2.2.2⟩
    rw [← Q.nm]; exact h2 z hz
  · have := readyW_len ds
    rw [Q.len] at this
    omega
end
section
variable {G : Gr} {w : World} {l : List Ent} {n : Nat} {KV : Pt → List Ent → Prop}
theorem l_turns {la : LwA} {lb : LwB} {lx : LexA} {ta : Addr} {rs : List FileR} {T : Int} {t : Word} {env : Env} {KF : Fl → List Ent → Prop} (B : Bx G w 20) (en : En env la.L f304.scope (lwC la)) (hA : B.A.frames = some [env]) (hf : env.frame = some la.L) (hrl : rs.length = 5) (hrf : ∀ k r, rs[k]? = some r → FileOk k r)
    (h : WF B (lw5 la lb lx t t.length ta rs T none none none none [("below", none), ("stages", none), ("sorter", none), ("k", none)] l) (execs ((fBody st44).drop 11) env) KF) :
    WF B (lw5 la lb lx t t.length ta rs T none none none none [] l) (execs ((fBody st44).drop 10) env) KF := by
  refine k_forR (α := Unit) 3 (fun c _ => True) (fun c _ => lw5 la lb lx t t.length ta rs T none none none none [("below", none), ("stages", none), ("sorter", none), ("k", none)] l) en (by kernel_rfl) ?_ ?_ ?_
  · unfold lw5 lexL lexB lexR lwL
    refine k_int ?_
    refine ⟨rfl, by decide, (), trivial, ?_⟩
    exact imw 19 19 rfl rfl (Wk.w (.keep (.keep (.keep (.keep (.new (.new (.new (.new .refl))))))))) (imx 24 8135923166407745605679949624286930577137728 24 rfl (by kernel_rfl))
  · intro it c _ KF1 hc _ hN1 _ _
    unfold lw5 lexL lexB lexR lwL
    refine k_asgN ?_
    refine k_storeC 13 en rfl rfl (by kernel_rfl) ?_
    refine WF.im ?_ (b_turn (la := la) (lb := lb) (lx := lx) (ta := ta) (rs := rs) (T := T) (t := t) (l := (it, ri ((c + 1 : Nat) : Int) ((3 : Nat) - ((c + 1 : Nat) : Int)) 1) :: l) B en hA hf hrl hrf (c := c) (by omega) fun l' hl' => (hN1 l' () trivial (hl'.trans ?_)).1)
    · unfold lw5 lexL lexB lexR lwL
      refine imxk 24 8489903248924104703164643565122618855010433 25 rfl (by kernel_rfl) ?_
      exact .perm List.perm_middle.symm .refl
    · unfold lw5 lexL lexB lexR lwL
      refine Im.trans (imTl (.perm List.perm_middle .refl) [_, _, _, _, _, _, _, _, _, _, _, _, _, _, _, _, _, _, _, _, _, _, _, _]) ?_
      exact imx 25 520699082650095718763516775954363556936814616 25 rfl (by kernel_rfl)
  · intro _ _
    refine k_nil ?_
    refine nx_next ?_
    exact h
theorem textW_len {rs : List FileR} (T : Int) (hrl : rs.length = 5) (hrf : ∀ k r, rs[k]? = some r → FileOk k r) : (textW rs T).length ≤ 100000 := by
  have hfl := flat_le (ys := (ordW T 5).map (wrW rs)) (m := 32) fun y hy => by
    obtain ⟨k, hk, rfl⟩ := List.mem_map.mp hy
    have hk5 := ordW_lt T hk
    obtain ⟨r, hr⟩ : ∃ r, rs[k]? = some r := ⟨_, List.getElem?_eq_getElem (by omega)⟩
    have := nmR_len (hrf k r hr)
    have := written_len (nmW rs k) (rs.getD k ⟨0, 0, 0, [], 0⟩).man.toNat
    rw [nmW_at hr] at this
    show (written (nmW rs k) _).length ≤ 32
    rw [nmW_at hr]
    omega
  rw [List.length_map, ordW_len] at hfl
  exact Nat.le_trans hfl (by decide)
theorem s_law {sa : Addr} {ns : List Int} (B : Bx G w 21) (hA : B.A.frames = some []) (hBM : BM G) (hs : BL G sa (ns.map Pt.int)) (hl : ns.length ≤ 63) :
    WC B [(260, tabQ #[])] (.ref 304) [.ref sa] (fun p l => p = .bool true ∧ Has 260 tabP l) := by
  refine k_enterCF (fd := f304) (names := ["script"]) (body := fBody st44) (by kernel_rfl) (by kernel_rfl) (by kernel_rfl) (by kernel_rfl) (by kernel_rfl) (by kernel_rfl) (by kernel_rfl)
    (fun vs hv => by
      cases hv with | cons h1 hv =>
      cases hv
      exact ⟨[(_, _)], by kernel_rfl, rfl, rfl⟩) fun L cs env B1 B2 KF hfr hf en hcs hR hN => ?_
  rw [hA] at hfr
  obtain ⟨as, ha1, rfl⟩ := cs_of (names := ["place", "shows", "c", "told", "lex", "turned", "names", "j", "files"]) (hcs.trans (by kernel_rfl))
  match as, ha1 with
  | [apl, ash, ac, ato, alx, atu, anm, aj, afi], _ =>
  have ⟨la, hla⟩ : ∃ la : LwA, la = ⟨apl, ash, ac, ato, alx, atu, anm, aj, afi, L⟩ := ⟨_, rfl⟩
  have en1 : En env la.L f304.scope (lwC la) := by subst hla; exact en
  have hf1 : env.frame = some la.L := by subst hla; exact hf
  refine wbs_cons ?_
  refine k_store 9 0 en rfl (by kernel_rfl) ?_
  refine wbs_nil ?_
  refine WF.im (l' := lwL la none none none none none none none none none [bd "script" (.ref sa)] [(260, tabQ #[])]) (by subst hla; exact imx 11 11693627636546543680 11 rfl (by kernel_rfl)) ?_
  clear en hf hcs
  unfold lwL
  refine k_Assign ?_
  refine k_call (f := 251) (fd := f251) en1 (by kernel_rfl) (by kernel_rfl) (by kernel_rfl) ?_
  refine k_items_cons ?_
  refine k_name 9 0 en1 rfl rfl (by kernel_rfl) ?_
  refine k_items_nil ?_
  refine s_files (B1.le (by decide)) hs hl fun fa rs hrl hrf => ?_
  refine WU1.im (l' := lwL la none none none none none none none none none [bd "script" (.ref sa)] ((260, tabQ #[]) :: (fa, lst (rs.map fun r => Pt.ref r.ta)) :: (FL rs ++ []))) (.perm ?_ .refl) ?_
  · rw [List.append_nil]
    exact List.perm_append_comm (l₁ := _ :: FL rs) (l₂ := [_, _, _, _, _, _, _, _, _, _, _])
  unfold lwL
  refine k_storeC 8 en1 rfl rfl (by kernel_rfl) ?_
  refine WF.im (l' := lw1 la sa fa rs none []) ?_ (l_names B1 en1 hrl hrf fun na => ?_)
  · unfold lw1 lwL
    exact imx 12 823350366879766814784 12 rfl (by kernel_rfl)
    done
  refine WF.im (l' := lw2 la sa fa na rs none [] []) ?_ (l_order (T := ns.sum + 7) B1 en1 hs rfl fun oa => ?_)
  · unfold lw1 lw2 lwL
    refine imxk 12 823350366879766814784 12 rfl (by kernel_rfl) ?_
    exact .perm (List.perm_middle (l₂ := [])) .refl
  refine WF.im (l' := lw3 la sa fa na oa rs (ns.sum + 7) none none [] [(260, tabQ #[])]) ?_ (l_text B1 en1 hrl hrf ?_)
  · unfold lw2 lw3 lwL
    refine imxk 12 898290264679211868224 13 rfl (by kernel_rfl) ?_
    exact .perm ((List.Perm.cons _ (List.perm_middle (l₂ := []))).trans ((List.Perm.swap ..).trans (.cons _ (List.perm_middle (l₂ := [])).symm))) .refl
  refine l_lex (lb := ⟨sa, fa, na, oa⟩) B1 hBM en1 fun lx => ?_
  have hz := textW_len (ns.sum + 7) hrl hrf
  have ht : ((ordW (ns.sum + 7) 5).map (wrW rs)).flatten = textW rs (ns.sum + 7) := rfl
  rw [ht]
  refine l_told B1 en1 hrl hrf rfl hz fun ta => ?_
  refine l_check1 B1 en1 hrl hrf ?_
  refine l_check2 B1 en1 hz ?_
  refine l_turns B1 en1 hfr hf1 hrl hrf ?_
  unfold lw5 lexL lexB lexR lwL
  refine k_Return ?_
  refine k_bool ?_
  refine hR _ _ _ .refl ⟨rfl, ?_⟩
  repeat first | exact .head | refine Has.tail ?_ | refine Has.right ?_ _
end
theorem oks_ints : ∀ {vs : List Value} {ns : List Int}, IntsAre vs ns → Oks (ns.map Pt.int) vs := by
  intro vs ns h
  induction h with
  | nil => exact .nil
  | cons i t _ ih => exact .cons ⟨_, rfl⟩ ih
theorem top_of (H : ∀ (G : Gr) (w : World) (B : Bx G w 21) (sa : Addr) (ns : List Int), B.A.frames = some [] → BM G → BL G sa (ns.map Pt.int) → ns.length ≤ 63 → WC B [(260, tabQ #[])] (.ref 304) [.ref sa] (fun p l => p = .bool true ∧ Has 260 tabP l)) : PySem.Challenge.rw_oy0346_01.Holds := by
  rw [rw_eq]
  refine hd ?_
  intro w s₀ s₁ mg mb G Y a o pm cd doc dV kV ho hd hcd hD hmg hg args vals as hpre hlay hrd hwl hlo
  have X : (K w.params).In s₁.heap := km_in_of Y.1
  have T8 : s₁.heap.get? 260 = some (tabObj #[]) := km_tabs_of Y.1 260 (by simp)
  have hT : TabsAt [(264, 260)] s₁.heap := fun q hq => by
    cases List.mem_singleton.mp hq
    exact ⟨codeHd_of_K X (by kernel_rfl), T8⟩
  refine Ground.open G ?_
  intro T _ _ _ _
  clear hD
  wrow_args hpre hlay hrd hwl hlo
  rename_i ns _ _ _ _ _ _ _ sa vs _ hL _ _ _ hI _ hlen _
  have hlen : ns.length ≤ 63 := by omega
  have ha : mg (Str.ofString "law") = some (.ref 304) := mg_of X T.g (by kernel_rfl)
  have ha2 : a = 304 := by
    have e : mg lawD.name = mg (Str.ofString "law") := rfl
    rw [e, ha] at hmg; cases hmg; rfl
  subst ha2
  let Gt := ghost_top hT T
  let G' : Gr := ⟨ghostOf s₁.heap [(264, 260)], s₁.gens, s₁.drawn, s₁.os⟩
  have kx : ∀ b o, s₁.heap.get? b = some o → b ≠ 260 → (ghostOf s₁.heap [(264, 260)]).get? b = some o := fun b o e n => ghost_ne e (by simpa using n)
  have bs : Bs G' w := by
    refine ⟨fun a o e => kx a o (X a o e) fun q => ?_, ⟨mg, Gt.g⟩, ⟨mb, Gt.b, Gt.builtins⟩, Gt.nolimit, ?_⟩
    · subst q
      have : (K w.params).lookup 260 = none := by kernel_rfl
      rw [this] at e; cases e
    · obtain ⟨o, e⟩ := Option.isSome_iff_exists.mp Y.2
      rw [show G'.h₀.get? sysModules = some o from kx _ _ e (by decide)]
      exact fun h => nomatch h
  have hA : Ar callerA 21 := ⟨rfl, by decide, by decide⟩
  have hBL : BL G' sa (ns.map Pt.int) := by
    obtain ⟨o, e, r⟩ := hL
    exact ⟨vs, oks_ints hI, o, kx _ _ e (fun q => by rw [q, T8] at e; cases e; cases r.1), r⟩
  have F0 : St G' s₁ [(260, tabQ #[])] := by
    refine ⟨fun b o e => of_hideAll _ e, fun p hp => ?_, fun p hp => ?_, by simp, rfl, rfl, rfl⟩
    · cases List.mem_singleton.mp hp
      exact ⟨_, T8, rfl⟩
    · cases List.mem_singleton.mp hp
      exact hideAll_none _ (by simp)
  refine wpAny_mono (H G' w ⟨callerA, bs, hA⟩ sa ns rfl (let ⟨bm, ob, b⟩ := Gt.bmain; ⟨mg, bm, ob, Gt.g, b⟩) hBL hlen _ (.cons okR .nil) s₁ F0) (fun v s' z => ?_) fun _ _ z => z.elim
  obtain ⟨p, l, hp, F, e, h8⟩ := z
  subst e; cases hp
  obtain ⟨ob, e8, ps, e8', _⟩ := F.get h8
  subst e8'
  refine ⟨.inl ⟨.bool true, .bool true, [], rfl, ?_, .bool true, ?_, fun _ => ⟨.nil, fun _ h => nomatch h⟩⟩, ⟨fun b o e => ?_, fun b o e => ?_⟩, F.os, .of_eq (F.gens.trans hg)⟩
  · intro cls; rfl
  · wrow_post
  · by_cases q : b = 260
    · subst q
      rw [T8] at e; cases e
      refine .inr (.inl ⟨((hT _ (.head _)).1.tab T8).isCodeTable, rfl, #[], ps, rfl, ?_⟩)
      rw [e8]; simp
    · exact .inl (F.base _ _ (kx _ _ e q))
  · by_cases q : b = 260
    · subst q; exact ⟨_, e8⟩
    · exact ⟨_, F.base _ _ (kx _ _ e q)⟩
end Mine
set_option maxRecDepth 100000 in
set_option maxHeartbeats 8000000 in
theorem PySem.Challenge.cw_oy0346_01_holds : PySem.Challenge.rw_oy0346_01.Holds := by
  exact Mine.top_of fun _ _ B _ _ hA hBM hs hl => Mine.s_law B hA hBM hs hl
