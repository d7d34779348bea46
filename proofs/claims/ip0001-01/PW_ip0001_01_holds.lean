import PyProof.Rows.All
import Wide.All
import OpenK.AllK
import Wide.FinOn
import KE.LcTurns
import KE.RegLcTurns
import KE.KLcFree
import PySem.Challenge.RW_ip0001_01
open PySem PySem.W PyProof.Rows
set_option Elab.async false
set_option genSizeOfSpec false
set_option bootstrap.genMatcherCode false
set_option linter.unusedVariables false
set_option maxRecDepth 100000
set_option maxHeartbeats 0
namespace DaHead

/-- what the states hang on: the world's parameters and the three sets -/
structure SetP where
  es : Array (Int × Value)
  n : Nat
  t : SetTable
noncomputable def setO (x : SetP) : Obj := { cls := .type "set", dict := none, data := .set x.es x.n x.t, slots := #[] }
structure Wd where
  P : Params
  X : SetP
  Y : SetP
  Z : SetP
noncomputable abbrev pw : Program := PySem.Challenge.pw_ip0001_01
noncomputable def nthS : List Stmt → Nat → Stmt
  | [], _ => .Pass default
  | s :: _, 0 => s
  | _ :: r, n + 1 => nthS r n
noncomputable def dropS : Nat → List Stmt → List Stmt
  | 0, l => l
  | _ + 1, [] => []
  | n + 1, _ :: r => dropS n r
noncomputable def bodyS : Stmt → List Stmt
  | .ClassDef _ _ _ b _ _ _ _ _ _ _ => b
  | _ => []
noncomputable def fnA : Stmt → Arguments
  | .FunctionDef _ a _ _ _ _ _ _ _ _ => a
  | _ => default
noncomputable def fnB : Stmt → List Stmt
  | .FunctionDef _ _ b _ _ _ _ _ _ _ => b
  | _ => []
noncomputable def fnC : Stmt → Scope
  | .FunctionDef _ _ _ _ _ _ s _ _ _ => s
  | .ClassDef _ _ _ _ _ _ s _ _ _ _ => s
  | _ => default
noncomputable def topS (i : Nat) : Stmt := nthS pw.main.body i
noncomputable def clsS (i j : Nat) : Stmt := nthS (bodyS (topS i)) j
noncomputable abbrev TR := Option (Flow × SharedT × Code × Pos)
noncomputable def lifeH : Life := (Life.mk [] [] [] 0 [] [] Bool.false (List.toArray []) [] 0 Bool.false Bool.false Bool.false (0 : Int) [(2000 : Int), (10 : Int), (10 : Int)] Bool.false 0 Bool.true [] [] 0 Bool.false)
noncomputable def envT : Env := { scope := pw.main.scope, locals := mainNs, globals := mainNs, cells := [], code := .ref 13, frame := some 14 }
noncomputable abbrev cT : Code := .body (behindTheImports pw) envT
noncomputable abbrev q0 : Pos := ⟨0, 0, 0, 0⟩
noncomputable def nO : SetP := ⟨#[], 0, default⟩
noncomputable def G_l := fun (P : Program) (w : World) => segRunT treeTable P w 11 (some (.ref 6))
theorem G_le : G_l = G_l := rfl
name_quick G_lq for G_l by G_le
noncomputable def GG_l := fun (P : Program) (w : World) => segGoT treeTable P w 11 (some (.ref 6))
theorem GG_le : GG_l = GG_l := rfl
name_quick GG_lq for GG_l by GG_le
theorem byG {P : Program} {w : World} {b n : Nat} {s : SharedT} {t : Thread} {r : TR} (h : PySem.W.Fast.G_lq P w b n s t = r) : segRunT treeTable P w 11 (some (.ref 6)) b n s t = r := by
  show G_l P w b n s t = r
  rw [PySem.W.Fast.G_lq_eq]; exact h
noncomputable abbrev TG := Option (SharedT × Thread)
noncomputable def DD_l := fun (c : Code) => denote treeTable c
theorem DD_le : DD_l = DD_l := rfl
name_quick DD_lq for DD_l by DD_le
theorem byDD (c : Code) : denote treeTable c = PySem.W.Fast.DD_lq c := by
  show DD_l c = _
  rw [PySem.W.Fast.DD_lq_eq]
theorem byGG {P : Program} {w : World} {b n : Nat} {s : SharedT} {t : Thread} {r : TG} (h : PySem.W.Fast.GG_lq P w b n s t = r) : segGoT treeTable P w 11 (some (.ref 6)) b n s t = r := by
  show GG_l P w b n s t = r
  rw [PySem.W.Fast.GG_lq_eq]; exact h
noncomputable def o1 (E : Wd) : Obj := (Obj.mk (Value.type "code") Option.none (Data.fields (List.toArray [(Value.str (Str.ofString "<module>") 182), (Value.str (Str.ofString "<module>") 183), (Value.str (Str.ofString "/claim/cut.py") 184), (Value.int (1 : Int) 0), (Value.int (0 : Int) 0), (Value.int (0 : Int) 0), (Value.int (0 : Int) 0), (Value.int (0 : Int) 0), (Value.ref 11), (Value.bool Bool.false), (Value.int (181 : Int) 0), (Value.ref 12), Value.none, Value.none, Value.none, Value.none, (Value.int (185 : Int) 0), (Value.int (1 : Int) 0), (Value.str (Str.ofString "/claim/cut.py") 186)])) (List.toArray []))
noncomputable def o2 (E : Wd) : Obj := (Obj.mk (Value.type "frame") Option.none Data.plain (List.toArray [(Option.some (Value.ref 13)), (Option.some (Value.ref 3)), (Option.some (Value.ref 3)), Option.none, (Option.some (Value.str (Str.ofString "__main__") 164)), Option.none, (Option.some (Value.ref 0))]))
noncomputable def n3 (E : Wd) : BT := BT.node (boot_o_7 E.P) BT.nil BT.nil
noncomputable def n4 (E : Wd) : BT := BT.node (boot_o_3 E.P) (n3 E) (n3 E)
noncomputable def n5 (E : Wd) : BT := BT.node (boot_o_9 E.P) BT.nil BT.nil
noncomputable def n6 (E : Wd) : BT := BT.node (o1 E) BT.nil BT.nil
noncomputable def n7 (E : Wd) : BT := BT.node (boot_o_5 E.P) (n5 E) (n6 E)
noncomputable def n8 (E : Wd) : BT := BT.node (boot_o_1 E.P) (n4 E) (n7 E)
noncomputable def n9 (E : Wd) : BT := BT.node (boot_o_8 E.P) BT.nil BT.nil
noncomputable def n10 (E : Wd) : BT := BT.node (boot_o_4 E.P) (n9 E) (n9 E)
noncomputable def n11 (E : Wd) : BT := BT.node (boot_o_10 E.P) BT.nil BT.nil
noncomputable def n12 (E : Wd) : BT := BT.node (o2 E) BT.nil BT.nil
noncomputable def n13 (E : Wd) : BT := BT.node (boot_o_6 E.P) (n11 E) (n12 E)
noncomputable def n14 (E : Wd) : BT := BT.node (boot_o_2 E.P) (n10 E) (n13 E)
noncomputable def n15 (E : Wd) : BT := BT.node (boot_o_0 E.P) (n8 E) (n14 E)
noncomputable def S0_t (E : Wd) : BT := (n15 E)
noncomputable def S0 (E : Wd) (os : OsState) : SharedT := SharedT.mk (S0_t E) 15 lifeH (Array.mk []) (Drawn.mk 0 0 0 0) 187 os
noncomputable def o16 (E : Wd) : Obj := (Obj.mk (Value.type "dict") Option.none (Data.dict (List.toArray [(DictEntry.mk (PyData.keyHash E.P (Str.ofString "__name__")) (Value.str (Str.ofString "__name__") 165) (Value.str (Str.ofString "snowballstemmer.danish_stemmer") 459)), (DictEntry.mk (PyData.keyHash E.P (Str.ofString "__doc__")) (Value.str (Str.ofString "__doc__") 166) Value.none), (DictEntry.mk (PyData.keyHash E.P (Str.ofString "__package__")) (Value.str (Str.ofString "__package__") 167) Value.none), (DictEntry.mk (PyData.keyHash E.P (Str.ofString "__loader__")) (Value.str (Str.ofString "__loader__") 168) (Value.builtin "__main__.__loader__#opaque")), (DictEntry.mk (PyData.keyHash E.P (Str.ofString "__spec__")) (Value.str (Str.ofString "__spec__") 169) Value.none), (DictEntry.mk (PyData.keyHash E.P (Str.ofString "__annotations__")) (Value.str (Str.ofString "__annotations__") 170) (Value.ref 6)), (DictEntry.mk (PyData.keyHash E.P (Str.ofString "__builtins__")) (Value.str (Str.ofString "__builtins__") 171) (Value.ref 4)), (DictEntry.mk (PyData.keyHash E.P (Str.ofString "__file__")) (Value.str (Str.ofString "__file__") 173) (Value.str (Str.ofString "/claim/cut.py") 172)), (DictEntry.mk (PyData.keyHash E.P (Str.ofString "__cached__")) (Value.str (Str.ofString "__cached__") 174) Value.none), (DictEntry.mk (PyData.keyHash E.P (Str.ofString "_wall")) (Value.str (Str.ofString "_wall") 193) (Value.ref 21)), (DictEntry.mk (PyData.keyHash E.P (Str.ofString "BaseStemmer")) (Value.str (Str.ofString "BaseStemmer") 423) (Value.ref 197)), (DictEntry.mk (PyData.keyHash E.P (Str.ofString "Among")) (Value.str (Str.ofString "Among") 458) (Value.ref 218))]) 12) (List.toArray []))
noncomputable def o17 (E : Wd) : Obj := (Obj.mk Value.none Option.none (Data.fields (List.toArray [(Value.int (1 : Int) 0), (Value.int (0 : Int) 0), (Value.ref 20), (Value.int (5 : Int) 0), (Value.int (0 : Int) 0), (Value.ref 27), (Value.int (160 : Int) 0), (Value.int (0 : Int) 0), (Value.ref 207)])) (List.toArray []))
noncomputable def o18 (E : Wd) : Obj := (Obj.mk (Value.type "tuple") Option.none (Data.seq (List.toArray [(Value.str (Str.ofString "k") 190)]) 0) (List.toArray []))
noncomputable def o19 (E : Wd) : Obj := (Obj.mk Value.none Option.none (Data.func (FuncData.mk (Str.ofString "_wall") (Str.ofString "_wall") (fnA (topS 0)) (FuncBody.stmts (fnB (topS 0))) (fnC (topS 0)) 0 [] Value.none Value.none Value.none Value.none Option.none Value.none Value.none 0)) (List.toArray []))
noncomputable def o20 (E : Wd) : Obj := (Obj.mk (Value.type "code") Option.none (Data.fields (List.toArray [(Value.str (Str.ofString "_wall") 187), (Value.str (Str.ofString "_wall") 188), (Value.str (Str.ofString "/claim/cut.py") 189), (Value.int (1 : Int) 0), (Value.int (1 : Int) 0), (Value.int (0 : Int) 0), (Value.int (0 : Int) 0), (Value.int (3 : Int) 0), (Value.ref 15), (Value.bool Bool.true), (Value.int (181 : Int) 0), (Value.ref 16), Value.none, (Value.ref 17), (Value.ref 18), (Value.ref 19), (Value.int (191 : Int) 0), (Value.int (1 : Int) 0), (Value.str (Str.ofString "/claim/cut.py") 192)])) (List.toArray []))
noncomputable def o21 (E : Wd) : Obj := (Obj.mk (Value.type "function") Option.none (Data.func (FuncData.mk (Str.ofString "_wall") (Str.ofString "_wall") (fnA (topS 0)) (FuncBody.stmts (fnB (topS 0))) (fnC (topS 0)) 3 [] Value.none Value.none Value.none (Value.str (Str.ofString "__main__") 164) Option.none (Value.ref 20) Value.none 0)) (List.toArray []))
noncomputable def o22 (E : Wd) : Obj := (Obj.mk (Value.type "builtin_function_or_method") Option.none (Data.fields (List.toArray [(Value.builtin "type.__prepare__"), (Value.type "type")])) (List.toArray []))
noncomputable def o23 (E : Wd) : Obj := (Obj.mk (Value.type "dict") Option.none (Data.dict (List.toArray [(DictEntry.mk (PyData.keyHash E.P (Str.ofString "__module__")) (Value.str (Str.ofString "__module__") 203) (Value.str (Str.ofString "snowballstemmer.basestemmer") 194)), (DictEntry.mk (PyData.keyHash E.P (Str.ofString "__qualname__")) (Value.str (Str.ofString "__qualname__") 205) (Value.str (Str.ofString "BaseStemmer") 204)), (DictEntry.mk (PyData.keyHash E.P (Str.ofString "__firstlineno__")) (Value.str (Str.ofString "__firstlineno__") 207) (Value.int (5 : Int) 206)), (DictEntry.mk (PyData.keyHash E.P (Str.ofString "__init__")) (Value.str (Str.ofString "__init__") 214) (Value.ref 35)), (DictEntry.mk (PyData.keyHash E.P (Str.ofString "set_current")) (Value.str (Str.ofString "set_current") 222) (Value.ref 42)), (DictEntry.mk (PyData.keyHash E.P (Str.ofString "get_current")) (Value.str (Str.ofString "get_current") 229) (Value.ref 49)), (DictEntry.mk (PyData.keyHash E.P (Str.ofString "copy_from")) (Value.str (Str.ofString "copy_from") 237) (Value.ref 56)), (DictEntry.mk (PyData.keyHash E.P (Str.ofString "in_grouping")) (Value.str (Str.ofString "in_grouping") 245) (Value.ref 63)), (DictEntry.mk (PyData.keyHash E.P (Str.ofString "go_in_grouping")) (Value.str (Str.ofString "go_in_grouping") 253) (Value.ref 70)), (DictEntry.mk (PyData.keyHash E.P (Str.ofString "in_grouping_b")) (Value.str (Str.ofString "in_grouping_b") 261) (Value.ref 77)), (DictEntry.mk (PyData.keyHash E.P (Str.ofString "go_in_grouping_b")) (Value.str (Str.ofString "go_in_grouping_b") 269) (Value.ref 84)), (DictEntry.mk (PyData.keyHash E.P (Str.ofString "out_grouping")) (Value.str (Str.ofString "out_grouping") 277) (Value.ref 91)), (DictEntry.mk (PyData.keyHash E.P (Str.ofString "go_out_grouping")) (Value.str (Str.ofString "go_out_grouping") 285) (Value.ref 98)), (DictEntry.mk (PyData.keyHash E.P (Str.ofString "out_grouping_b")) (Value.str (Str.ofString "out_grouping_b") 293) (Value.ref 105)), (DictEntry.mk (PyData.keyHash E.P (Str.ofString "go_out_grouping_b")) (Value.str (Str.ofString "go_out_grouping_b") 301) (Value.ref 112)), (DictEntry.mk (PyData.keyHash E.P (Str.ofString "eq_s")) (Value.str (Str.ofString "eq_s") 309) (Value.ref 119)), (DictEntry.mk (PyData.keyHash E.P (Str.ofString "eq_s_b")) (Value.str (Str.ofString "eq_s_b") 317) (Value.ref 126)), (DictEntry.mk (PyData.keyHash E.P (Str.ofString "find_among")) (Value.str (Str.ofString "find_among") 325) (Value.ref 133)), (DictEntry.mk (PyData.keyHash E.P (Str.ofString "find_among_b")) (Value.str (Str.ofString "find_among_b") 345) (Value.ref 140)), (DictEntry.mk (PyData.keyHash E.P (Str.ofString "replace_s")) (Value.str (Str.ofString "replace_s") 356) (Value.ref 147)), (DictEntry.mk (PyData.keyHash E.P (Str.ofString "slice_from")) (Value.str (Str.ofString "slice_from") 364) (Value.ref 154)), (DictEntry.mk (PyData.keyHash E.P (Str.ofString "slice_del")) (Value.str (Str.ofString "slice_del") 371) (Value.ref 161)), (DictEntry.mk (PyData.keyHash E.P (Str.ofString "insert")) (Value.str (Str.ofString "insert") 381) (Value.ref 168)), (DictEntry.mk (PyData.keyHash E.P (Str.ofString "slice_to")) (Value.str (Str.ofString "slice_to") 388) (Value.ref 175)), (DictEntry.mk (PyData.keyHash E.P (Str.ofString "assign_to")) (Value.str (Str.ofString "assign_to") 395) (Value.ref 182)), (DictEntry.mk (PyData.keyHash E.P (Str.ofString "stemWord")) (Value.str (Str.ofString "stemWord") 403) (Value.ref 189)), (DictEntry.mk (PyData.keyHash E.P (Str.ofString "stemWords")) (Value.str (Str.ofString "stemWords") 409) (Value.ref 194)), (DictEntry.mk (PyData.keyHash E.P (Str.ofString "__static_attributes__")) (Value.str (Str.ofString "__static_attributes__") 416) (Value.ref 195))]) 28) (List.toArray []))
noncomputable def o24 (E : Wd) : Obj := (Obj.mk Value.none Option.none (Data.fields (List.toArray [(Value.int (7 : Int) 0), (Value.int (4 : Int) 0), (Value.ref 34), (Value.int (10 : Int) 0), (Value.int (4 : Int) 0), (Value.ref 41), (Value.int (18 : Int) 0), (Value.int (4 : Int) 0), (Value.ref 48), (Value.int (21 : Int) 0), (Value.int (4 : Int) 0), (Value.ref 55), (Value.int (24 : Int) 0), (Value.int (4 : Int) 0), (Value.ref 62), (Value.int (27 : Int) 0), (Value.int (4 : Int) 0), (Value.ref 69), (Value.int (34 : Int) 0), (Value.int (4 : Int) 0), (Value.ref 76), (Value.int (42 : Int) 0), (Value.int (4 : Int) 0), (Value.ref 83), (Value.int (45 : Int) 0), (Value.int (4 : Int) 0), (Value.ref 90), (Value.int (48 : Int) 0), (Value.int (4 : Int) 0), (Value.ref 97), (Value.int (55 : Int) 0), (Value.int (4 : Int) 0), (Value.ref 104), (Value.int (58 : Int) 0), (Value.int (4 : Int) 0), (Value.ref 111), (Value.int (61 : Int) 0), (Value.int (4 : Int) 0), (Value.ref 118), (Value.int (64 : Int) 0), (Value.int (4 : Int) 0), (Value.ref 125), (Value.int (70 : Int) 0), (Value.int (4 : Int) 0), (Value.ref 132), (Value.int (73 : Int) 0), (Value.int (4 : Int) 0), (Value.ref 139), (Value.int (118 : Int) 0), (Value.int (4 : Int) 0), (Value.ref 146), (Value.int (128 : Int) 0), (Value.int (4 : Int) 0), (Value.ref 153), (Value.int (136 : Int) 0), (Value.int (4 : Int) 0), (Value.ref 160), (Value.int (139 : Int) 0), (Value.int (4 : Int) 0), (Value.ref 167), (Value.int (142 : Int) 0), (Value.int (4 : Int) 0), (Value.ref 174), (Value.int (149 : Int) 0), (Value.int (4 : Int) 0), (Value.ref 181), (Value.int (152 : Int) 0), (Value.int (4 : Int) 0), (Value.ref 188), (Value.int (157 : Int) 0), (Value.int (4 : Int) 0), (Value.ref 193)])) (List.toArray []))
noncomputable def o25 (E : Wd) : Obj := (Obj.mk (Value.type "code") Option.none (Data.fields (List.toArray [(Value.str (Str.ofString "BaseStemmer") 198), (Value.str (Str.ofString "BaseStemmer") 199), (Value.str (Str.ofString "/claim/cut.py") 200), (Value.int (5 : Int) 0), (Value.int (0 : Int) 0), (Value.int (0 : Int) 0), (Value.int (0 : Int) 0), (Value.int (0 : Int) 0), (Value.ref 25), (Value.bool Bool.false), (Value.int (181 : Int) 0), (Value.ref 26), Value.none, Value.none, Value.none, Value.none, (Value.int (201 : Int) 0), (Value.int (5 : Int) 0), (Value.str (Str.ofString "/claim/cut.py") 202)])) (List.toArray []))
noncomputable def o26 (E : Wd) : Obj := (Obj.mk (Value.type "frame") Option.none Data.plain (List.toArray [(Option.some (Value.ref 27)), (Option.some (Value.ref 3)), (Option.some (Value.ref 24)), Option.none, (Option.some (Value.str (Str.ofString "snowballstemmer.basestemmer") 194)), Option.none, (Option.some (Value.ref 0))]))
noncomputable def o27 (E : Wd) : Obj := (Obj.mk (Value.type "tuple") Option.none (Data.seq (List.toArray [(Value.str (Str.ofString "self") 211)]) 0) (List.toArray []))
noncomputable def o28 (E : Wd) : Obj := (Obj.mk Value.none Option.none (Data.func (FuncData.mk (Str.ofString "__init__") (Str.ofString "BaseStemmer.__init__") (fnA (clsS 2 0)) (FuncBody.stmts (fnB (clsS 2 0))) (fnC (clsS 2 0)) 0 [] Value.none Value.none Value.none Value.none Option.none Value.none Value.none 0)) (List.toArray []))
noncomputable def o29 (E : Wd) : Obj := (Obj.mk (Value.type "code") Option.none (Data.fields (List.toArray [(Value.str (Str.ofString "__init__") 208), (Value.str (Str.ofString "BaseStemmer.__init__") 209), (Value.str (Str.ofString "/claim/cut.py") 210), (Value.int (7 : Int) 0), (Value.int (1 : Int) 0), (Value.int (0 : Int) 0), (Value.int (0 : Int) 0), (Value.int (3 : Int) 0), (Value.ref 29), (Value.bool Bool.true), (Value.int (181 : Int) 0), (Value.ref 30), Value.none, (Value.ref 31), (Value.ref 32), (Value.ref 33), (Value.int (212 : Int) 0), (Value.int (7 : Int) 0), (Value.str (Str.ofString "/claim/cut.py") 213)])) (List.toArray []))
noncomputable def o30 (E : Wd) : Obj := (Obj.mk (Value.type "function") Option.none (Data.func (FuncData.mk (Str.ofString "__init__") (Str.ofString "BaseStemmer.__init__") (fnA (clsS 2 0)) (FuncBody.stmts (fnB (clsS 2 0))) (fnC (clsS 2 0)) 3 [] Value.none Value.none Value.none (Value.str (Str.ofString "snowballstemmer.basestemmer") 194) Option.none (Value.ref 34) Value.none 0)) (List.toArray []))
noncomputable def o31 (E : Wd) : Obj := (Obj.mk (Value.type "tuple") Option.none (Data.seq (List.toArray [(Value.str (Str.ofString "self") 218), (Value.str (Str.ofString "value") 219)]) 0) (List.toArray []))
noncomputable def o32 (E : Wd) : Obj := (Obj.mk Value.none Option.none (Data.func (FuncData.mk (Str.ofString "set_current") (Str.ofString "BaseStemmer.set_current") (fnA (clsS 2 1)) (FuncBody.stmts (fnB (clsS 2 1))) (fnC (clsS 2 1)) 0 [] Value.none Value.none Value.none Value.none Option.none Value.none Value.none 0)) (List.toArray []))
noncomputable def o33 (E : Wd) : Obj := (Obj.mk (Value.type "code") Option.none (Data.fields (List.toArray [(Value.str (Str.ofString "set_current") 215), (Value.str (Str.ofString "BaseStemmer.set_current") 216), (Value.str (Str.ofString "/claim/cut.py") 217), (Value.int (10 : Int) 0), (Value.int (2 : Int) 0), (Value.int (0 : Int) 0), (Value.int (0 : Int) 0), (Value.int (3 : Int) 0), (Value.ref 36), (Value.bool Bool.true), (Value.int (181 : Int) 0), (Value.ref 37), Value.none, (Value.ref 38), (Value.ref 39), (Value.ref 40), (Value.int (220 : Int) 0), (Value.int (10 : Int) 0), (Value.str (Str.ofString "/claim/cut.py") 221)])) (List.toArray []))
noncomputable def o34 (E : Wd) : Obj := (Obj.mk (Value.type "function") Option.none (Data.func (FuncData.mk (Str.ofString "set_current") (Str.ofString "BaseStemmer.set_current") (fnA (clsS 2 1)) (FuncBody.stmts (fnB (clsS 2 1))) (fnC (clsS 2 1)) 3 [] Value.none Value.none Value.none (Value.str (Str.ofString "snowballstemmer.basestemmer") 194) Option.none (Value.ref 41) Value.none 0)) (List.toArray []))
noncomputable def o35 (E : Wd) : Obj := (Obj.mk (Value.type "tuple") Option.none (Data.seq (List.toArray [(Value.str (Str.ofString "self") 226)]) 0) (List.toArray []))
noncomputable def o36 (E : Wd) : Obj := (Obj.mk Value.none Option.none (Data.func (FuncData.mk (Str.ofString "get_current") (Str.ofString "BaseStemmer.get_current") (fnA (clsS 2 2)) (FuncBody.stmts (fnB (clsS 2 2))) (fnC (clsS 2 0)) 0 [] Value.none Value.none Value.none Value.none Option.none Value.none Value.none 0)) (List.toArray []))
noncomputable def o37 (E : Wd) : Obj := (Obj.mk (Value.type "code") Option.none (Data.fields (List.toArray [(Value.str (Str.ofString "get_current") 223), (Value.str (Str.ofString "BaseStemmer.get_current") 224), (Value.str (Str.ofString "/claim/cut.py") 225), (Value.int (18 : Int) 0), (Value.int (1 : Int) 0), (Value.int (0 : Int) 0), (Value.int (0 : Int) 0), (Value.int (3 : Int) 0), (Value.ref 43), (Value.bool Bool.true), (Value.int (181 : Int) 0), (Value.ref 44), Value.none, (Value.ref 45), (Value.ref 46), (Value.ref 47), (Value.int (227 : Int) 0), (Value.int (18 : Int) 0), (Value.str (Str.ofString "/claim/cut.py") 228)])) (List.toArray []))
noncomputable def o38 (E : Wd) : Obj := (Obj.mk (Value.type "function") Option.none (Data.func (FuncData.mk (Str.ofString "get_current") (Str.ofString "BaseStemmer.get_current") (fnA (clsS 2 2)) (FuncBody.stmts (fnB (clsS 2 2))) (fnC (clsS 2 0)) 3 [] Value.none Value.none Value.none (Value.str (Str.ofString "snowballstemmer.basestemmer") 194) Option.none (Value.ref 48) Value.none 0)) (List.toArray []))
noncomputable def o39 (E : Wd) : Obj := (Obj.mk (Value.type "tuple") Option.none (Data.seq (List.toArray [(Value.str (Str.ofString "self") 233), (Value.str (Str.ofString "other") 234)]) 0) (List.toArray []))
noncomputable def o40 (E : Wd) : Obj := (Obj.mk Value.none Option.none (Data.func (FuncData.mk (Str.ofString "copy_from") (Str.ofString "BaseStemmer.copy_from") (fnA (clsS 2 3)) (FuncBody.stmts (fnB (clsS 2 3))) (fnC (clsS 2 3)) 0 [] Value.none Value.none Value.none Value.none Option.none Value.none Value.none 0)) (List.toArray []))
noncomputable def o41 (E : Wd) : Obj := (Obj.mk (Value.type "code") Option.none (Data.fields (List.toArray [(Value.str (Str.ofString "copy_from") 230), (Value.str (Str.ofString "BaseStemmer.copy_from") 231), (Value.str (Str.ofString "/claim/cut.py") 232), (Value.int (21 : Int) 0), (Value.int (2 : Int) 0), (Value.int (0 : Int) 0), (Value.int (0 : Int) 0), (Value.int (3 : Int) 0), (Value.ref 50), (Value.bool Bool.true), (Value.int (181 : Int) 0), (Value.ref 51), Value.none, (Value.ref 52), (Value.ref 53), (Value.ref 54), (Value.int (235 : Int) 0), (Value.int (21 : Int) 0), (Value.str (Str.ofString "/claim/cut.py") 236)])) (List.toArray []))
noncomputable def o42 (E : Wd) : Obj := (Obj.mk (Value.type "function") Option.none (Data.func (FuncData.mk (Str.ofString "copy_from") (Str.ofString "BaseStemmer.copy_from") (fnA (clsS 2 3)) (FuncBody.stmts (fnB (clsS 2 3))) (fnC (clsS 2 3)) 3 [] Value.none Value.none Value.none (Value.str (Str.ofString "snowballstemmer.basestemmer") 194) Option.none (Value.ref 55) Value.none 0)) (List.toArray []))
noncomputable def o43 (E : Wd) : Obj := (Obj.mk (Value.type "tuple") Option.none (Data.seq (List.toArray [(Value.str (Str.ofString "self") 241), (Value.str (Str.ofString "s") 242)]) 0) (List.toArray []))
noncomputable def o44 (E : Wd) : Obj := (Obj.mk Value.none Option.none (Data.func (FuncData.mk (Str.ofString "in_grouping") (Str.ofString "BaseStemmer.in_grouping") (fnA (clsS 2 4)) (FuncBody.stmts (fnB (clsS 2 4))) (fnC (clsS 2 4)) 0 [] Value.none Value.none Value.none Value.none Option.none Value.none Value.none 0)) (List.toArray []))
noncomputable def o45 (E : Wd) : Obj := (Obj.mk (Value.type "code") Option.none (Data.fields (List.toArray [(Value.str (Str.ofString "in_grouping") 238), (Value.str (Str.ofString "BaseStemmer.in_grouping") 239), (Value.str (Str.ofString "/claim/cut.py") 240), (Value.int (24 : Int) 0), (Value.int (2 : Int) 0), (Value.int (0 : Int) 0), (Value.int (0 : Int) 0), (Value.int (3 : Int) 0), (Value.ref 57), (Value.bool Bool.true), (Value.int (181 : Int) 0), (Value.ref 58), Value.none, (Value.ref 59), (Value.ref 60), (Value.ref 61), (Value.int (243 : Int) 0), (Value.int (24 : Int) 0), (Value.str (Str.ofString "/claim/cut.py") 244)])) (List.toArray []))
noncomputable def o46 (E : Wd) : Obj := (Obj.mk (Value.type "function") Option.none (Data.func (FuncData.mk (Str.ofString "in_grouping") (Str.ofString "BaseStemmer.in_grouping") (fnA (clsS 2 4)) (FuncBody.stmts (fnB (clsS 2 4))) (fnC (clsS 2 4)) 3 [] Value.none Value.none Value.none (Value.str (Str.ofString "snowballstemmer.basestemmer") 194) Option.none (Value.ref 62) Value.none 0)) (List.toArray []))
noncomputable def o47 (E : Wd) : Obj := (Obj.mk (Value.type "tuple") Option.none (Data.seq (List.toArray [(Value.str (Str.ofString "self") 249), (Value.str (Str.ofString "s") 250)]) 0) (List.toArray []))
noncomputable def o48 (E : Wd) : Obj := (Obj.mk Value.none Option.none (Data.func (FuncData.mk (Str.ofString "go_in_grouping") (Str.ofString "BaseStemmer.go_in_grouping") (fnA (clsS 2 5)) (FuncBody.stmts (fnB (clsS 2 5))) (fnC (clsS 2 5)) 0 [] Value.none Value.none Value.none Value.none Option.none Value.none Value.none 0)) (List.toArray []))
noncomputable def o49 (E : Wd) : Obj := (Obj.mk (Value.type "code") Option.none (Data.fields (List.toArray [(Value.str (Str.ofString "go_in_grouping") 246), (Value.str (Str.ofString "BaseStemmer.go_in_grouping") 247), (Value.str (Str.ofString "/claim/cut.py") 248), (Value.int (27 : Int) 0), (Value.int (2 : Int) 0), (Value.int (0 : Int) 0), (Value.int (0 : Int) 0), (Value.int (3 : Int) 0), (Value.ref 64), (Value.bool Bool.true), (Value.int (181 : Int) 0), (Value.ref 65), Value.none, (Value.ref 66), (Value.ref 67), (Value.ref 68), (Value.int (251 : Int) 0), (Value.int (27 : Int) 0), (Value.str (Str.ofString "/claim/cut.py") 252)])) (List.toArray []))
noncomputable def o50 (E : Wd) : Obj := (Obj.mk (Value.type "function") Option.none (Data.func (FuncData.mk (Str.ofString "go_in_grouping") (Str.ofString "BaseStemmer.go_in_grouping") (fnA (clsS 2 5)) (FuncBody.stmts (fnB (clsS 2 5))) (fnC (clsS 2 5)) 3 [] Value.none Value.none Value.none (Value.str (Str.ofString "snowballstemmer.basestemmer") 194) Option.none (Value.ref 69) Value.none 0)) (List.toArray []))
noncomputable def o51 (E : Wd) : Obj := (Obj.mk (Value.type "tuple") Option.none (Data.seq (List.toArray [(Value.str (Str.ofString "self") 257), (Value.str (Str.ofString "s") 258)]) 0) (List.toArray []))
noncomputable def o52 (E : Wd) : Obj := (Obj.mk Value.none Option.none (Data.func (FuncData.mk (Str.ofString "in_grouping_b") (Str.ofString "BaseStemmer.in_grouping_b") (fnA (clsS 2 6)) (FuncBody.stmts (fnB (clsS 2 6))) (fnC (clsS 2 5)) 0 [] Value.none Value.none Value.none Value.none Option.none Value.none Value.none 0)) (List.toArray []))
noncomputable def o53 (E : Wd) : Obj := (Obj.mk (Value.type "code") Option.none (Data.fields (List.toArray [(Value.str (Str.ofString "in_grouping_b") 254), (Value.str (Str.ofString "BaseStemmer.in_grouping_b") 255), (Value.str (Str.ofString "/claim/cut.py") 256), (Value.int (34 : Int) 0), (Value.int (2 : Int) 0), (Value.int (0 : Int) 0), (Value.int (0 : Int) 0), (Value.int (3 : Int) 0), (Value.ref 71), (Value.bool Bool.true), (Value.int (181 : Int) 0), (Value.ref 72), Value.none, (Value.ref 73), (Value.ref 74), (Value.ref 75), (Value.int (259 : Int) 0), (Value.int (34 : Int) 0), (Value.str (Str.ofString "/claim/cut.py") 260)])) (List.toArray []))
noncomputable def o54 (E : Wd) : Obj := (Obj.mk (Value.type "function") Option.none (Data.func (FuncData.mk (Str.ofString "in_grouping_b") (Str.ofString "BaseStemmer.in_grouping_b") (fnA (clsS 2 6)) (FuncBody.stmts (fnB (clsS 2 6))) (fnC (clsS 2 5)) 3 [] Value.none Value.none Value.none (Value.str (Str.ofString "snowballstemmer.basestemmer") 194) Option.none (Value.ref 76) Value.none 0)) (List.toArray []))
noncomputable def o55 (E : Wd) : Obj := (Obj.mk (Value.type "tuple") Option.none (Data.seq (List.toArray [(Value.str (Str.ofString "self") 265), (Value.str (Str.ofString "s") 266)]) 0) (List.toArray []))
noncomputable def o56 (E : Wd) : Obj := (Obj.mk Value.none Option.none (Data.func (FuncData.mk (Str.ofString "go_in_grouping_b") (Str.ofString "BaseStemmer.go_in_grouping_b") (fnA (clsS 2 7)) (FuncBody.stmts (fnB (clsS 2 7))) (fnC (clsS 2 4)) 0 [] Value.none Value.none Value.none Value.none Option.none Value.none Value.none 0)) (List.toArray []))
noncomputable def o57 (E : Wd) : Obj := (Obj.mk (Value.type "code") Option.none (Data.fields (List.toArray [(Value.str (Str.ofString "go_in_grouping_b") 262), (Value.str (Str.ofString "BaseStemmer.go_in_grouping_b") 263), (Value.str (Str.ofString "/claim/cut.py") 264), (Value.int (42 : Int) 0), (Value.int (2 : Int) 0), (Value.int (0 : Int) 0), (Value.int (0 : Int) 0), (Value.int (3 : Int) 0), (Value.ref 78), (Value.bool Bool.true), (Value.int (181 : Int) 0), (Value.ref 79), Value.none, (Value.ref 80), (Value.ref 81), (Value.ref 82), (Value.int (267 : Int) 0), (Value.int (42 : Int) 0), (Value.str (Str.ofString "/claim/cut.py") 268)])) (List.toArray []))
noncomputable def o58 (E : Wd) : Obj := (Obj.mk (Value.type "function") Option.none (Data.func (FuncData.mk (Str.ofString "go_in_grouping_b") (Str.ofString "BaseStemmer.go_in_grouping_b") (fnA (clsS 2 7)) (FuncBody.stmts (fnB (clsS 2 7))) (fnC (clsS 2 4)) 3 [] Value.none Value.none Value.none (Value.str (Str.ofString "snowballstemmer.basestemmer") 194) Option.none (Value.ref 83) Value.none 0)) (List.toArray []))
noncomputable def o59 (E : Wd) : Obj := (Obj.mk (Value.type "tuple") Option.none (Data.seq (List.toArray [(Value.str (Str.ofString "self") 273), (Value.str (Str.ofString "s") 274)]) 0) (List.toArray []))
noncomputable def o60 (E : Wd) : Obj := (Obj.mk Value.none Option.none (Data.func (FuncData.mk (Str.ofString "out_grouping") (Str.ofString "BaseStemmer.out_grouping") (fnA (clsS 2 8)) (FuncBody.stmts (fnB (clsS 2 8))) (fnC (clsS 2 4)) 0 [] Value.none Value.none Value.none Value.none Option.none Value.none Value.none 0)) (List.toArray []))
noncomputable def o61 (E : Wd) : Obj := (Obj.mk (Value.type "code") Option.none (Data.fields (List.toArray [(Value.str (Str.ofString "out_grouping") 270), (Value.str (Str.ofString "BaseStemmer.out_grouping") 271), (Value.str (Str.ofString "/claim/cut.py") 272), (Value.int (45 : Int) 0), (Value.int (2 : Int) 0), (Value.int (0 : Int) 0), (Value.int (0 : Int) 0), (Value.int (3 : Int) 0), (Value.ref 85), (Value.bool Bool.true), (Value.int (181 : Int) 0), (Value.ref 86), Value.none, (Value.ref 87), (Value.ref 88), (Value.ref 89), (Value.int (275 : Int) 0), (Value.int (45 : Int) 0), (Value.str (Str.ofString "/claim/cut.py") 276)])) (List.toArray []))
noncomputable def o62 (E : Wd) : Obj := (Obj.mk (Value.type "function") Option.none (Data.func (FuncData.mk (Str.ofString "out_grouping") (Str.ofString "BaseStemmer.out_grouping") (fnA (clsS 2 8)) (FuncBody.stmts (fnB (clsS 2 8))) (fnC (clsS 2 4)) 3 [] Value.none Value.none Value.none (Value.str (Str.ofString "snowballstemmer.basestemmer") 194) Option.none (Value.ref 90) Value.none 0)) (List.toArray []))
noncomputable def o63 (E : Wd) : Obj := (Obj.mk (Value.type "tuple") Option.none (Data.seq (List.toArray [(Value.str (Str.ofString "self") 281), (Value.str (Str.ofString "s") 282)]) 0) (List.toArray []))
noncomputable def o64 (E : Wd) : Obj := (Obj.mk Value.none Option.none (Data.func (FuncData.mk (Str.ofString "go_out_grouping") (Str.ofString "BaseStemmer.go_out_grouping") (fnA (clsS 2 9)) (FuncBody.stmts (fnB (clsS 2 9))) (fnC (clsS 2 5)) 0 [] Value.none Value.none Value.none Value.none Option.none Value.none Value.none 0)) (List.toArray []))
noncomputable def o65 (E : Wd) : Obj := (Obj.mk (Value.type "code") Option.none (Data.fields (List.toArray [(Value.str (Str.ofString "go_out_grouping") 278), (Value.str (Str.ofString "BaseStemmer.go_out_grouping") 279), (Value.str (Str.ofString "/claim/cut.py") 280), (Value.int (48 : Int) 0), (Value.int (2 : Int) 0), (Value.int (0 : Int) 0), (Value.int (0 : Int) 0), (Value.int (3 : Int) 0), (Value.ref 92), (Value.bool Bool.true), (Value.int (181 : Int) 0), (Value.ref 93), Value.none, (Value.ref 94), (Value.ref 95), (Value.ref 96), (Value.int (283 : Int) 0), (Value.int (48 : Int) 0), (Value.str (Str.ofString "/claim/cut.py") 284)])) (List.toArray []))
noncomputable def o66 (E : Wd) : Obj := (Obj.mk (Value.type "function") Option.none (Data.func (FuncData.mk (Str.ofString "go_out_grouping") (Str.ofString "BaseStemmer.go_out_grouping") (fnA (clsS 2 9)) (FuncBody.stmts (fnB (clsS 2 9))) (fnC (clsS 2 5)) 3 [] Value.none Value.none Value.none (Value.str (Str.ofString "snowballstemmer.basestemmer") 194) Option.none (Value.ref 97) Value.none 0)) (List.toArray []))
noncomputable def o67 (E : Wd) : Obj := (Obj.mk (Value.type "tuple") Option.none (Data.seq (List.toArray [(Value.str (Str.ofString "self") 289), (Value.str (Str.ofString "s") 290)]) 0) (List.toArray []))
noncomputable def o68 (E : Wd) : Obj := (Obj.mk Value.none Option.none (Data.func (FuncData.mk (Str.ofString "out_grouping_b") (Str.ofString "BaseStemmer.out_grouping_b") (fnA (clsS 2 10)) (FuncBody.stmts (fnB (clsS 2 10))) (fnC (clsS 2 4)) 0 [] Value.none Value.none Value.none Value.none Option.none Value.none Value.none 0)) (List.toArray []))
noncomputable def o69 (E : Wd) : Obj := (Obj.mk (Value.type "code") Option.none (Data.fields (List.toArray [(Value.str (Str.ofString "out_grouping_b") 286), (Value.str (Str.ofString "BaseStemmer.out_grouping_b") 287), (Value.str (Str.ofString "/claim/cut.py") 288), (Value.int (55 : Int) 0), (Value.int (2 : Int) 0), (Value.int (0 : Int) 0), (Value.int (0 : Int) 0), (Value.int (3 : Int) 0), (Value.ref 99), (Value.bool Bool.true), (Value.int (181 : Int) 0), (Value.ref 100), Value.none, (Value.ref 101), (Value.ref 102), (Value.ref 103), (Value.int (291 : Int) 0), (Value.int (55 : Int) 0), (Value.str (Str.ofString "/claim/cut.py") 292)])) (List.toArray []))
noncomputable def o70 (E : Wd) : Obj := (Obj.mk (Value.type "function") Option.none (Data.func (FuncData.mk (Str.ofString "out_grouping_b") (Str.ofString "BaseStemmer.out_grouping_b") (fnA (clsS 2 10)) (FuncBody.stmts (fnB (clsS 2 10))) (fnC (clsS 2 4)) 3 [] Value.none Value.none Value.none (Value.str (Str.ofString "snowballstemmer.basestemmer") 194) Option.none (Value.ref 104) Value.none 0)) (List.toArray []))
noncomputable def o71 (E : Wd) : Obj := (Obj.mk (Value.type "tuple") Option.none (Data.seq (List.toArray [(Value.str (Str.ofString "self") 297), (Value.str (Str.ofString "s") 298)]) 0) (List.toArray []))
noncomputable def o72 (E : Wd) : Obj := (Obj.mk Value.none Option.none (Data.func (FuncData.mk (Str.ofString "go_out_grouping_b") (Str.ofString "BaseStemmer.go_out_grouping_b") (fnA (clsS 2 11)) (FuncBody.stmts (fnB (clsS 2 11))) (fnC (clsS 2 4)) 0 [] Value.none Value.none Value.none Value.none Option.none Value.none Value.none 0)) (List.toArray []))
noncomputable def o73 (E : Wd) : Obj := (Obj.mk (Value.type "code") Option.none (Data.fields (List.toArray [(Value.str (Str.ofString "go_out_grouping_b") 294), (Value.str (Str.ofString "BaseStemmer.go_out_grouping_b") 295), (Value.str (Str.ofString "/claim/cut.py") 296), (Value.int (58 : Int) 0), (Value.int (2 : Int) 0), (Value.int (0 : Int) 0), (Value.int (0 : Int) 0), (Value.int (3 : Int) 0), (Value.ref 106), (Value.bool Bool.true), (Value.int (181 : Int) 0), (Value.ref 107), Value.none, (Value.ref 108), (Value.ref 109), (Value.ref 110), (Value.int (299 : Int) 0), (Value.int (58 : Int) 0), (Value.str (Str.ofString "/claim/cut.py") 300)])) (List.toArray []))
noncomputable def o74 (E : Wd) : Obj := (Obj.mk (Value.type "function") Option.none (Data.func (FuncData.mk (Str.ofString "go_out_grouping_b") (Str.ofString "BaseStemmer.go_out_grouping_b") (fnA (clsS 2 11)) (FuncBody.stmts (fnB (clsS 2 11))) (fnC (clsS 2 4)) 3 [] Value.none Value.none Value.none (Value.str (Str.ofString "snowballstemmer.basestemmer") 194) Option.none (Value.ref 111) Value.none 0)) (List.toArray []))
noncomputable def o75 (E : Wd) : Obj := (Obj.mk (Value.type "tuple") Option.none (Data.seq (List.toArray [(Value.str (Str.ofString "self") 305), (Value.str (Str.ofString "s") 306)]) 0) (List.toArray []))
noncomputable def o76 (E : Wd) : Obj := (Obj.mk Value.none Option.none (Data.func (FuncData.mk (Str.ofString "eq_s") (Str.ofString "BaseStemmer.eq_s") (fnA (clsS 2 12)) (FuncBody.stmts (fnB (clsS 2 12))) (fnC (clsS 2 4)) 0 [] Value.none Value.none Value.none Value.none Option.none Value.none Value.none 0)) (List.toArray []))
noncomputable def o77 (E : Wd) : Obj := (Obj.mk (Value.type "code") Option.none (Data.fields (List.toArray [(Value.str (Str.ofString "eq_s") 302), (Value.str (Str.ofString "BaseStemmer.eq_s") 303), (Value.str (Str.ofString "/claim/cut.py") 304), (Value.int (61 : Int) 0), (Value.int (2 : Int) 0), (Value.int (0 : Int) 0), (Value.int (0 : Int) 0), (Value.int (3 : Int) 0), (Value.ref 113), (Value.bool Bool.true), (Value.int (181 : Int) 0), (Value.ref 114), Value.none, (Value.ref 115), (Value.ref 116), (Value.ref 117), (Value.int (307 : Int) 0), (Value.int (61 : Int) 0), (Value.str (Str.ofString "/claim/cut.py") 308)])) (List.toArray []))
noncomputable def o78 (E : Wd) : Obj := (Obj.mk (Value.type "function") Option.none (Data.func (FuncData.mk (Str.ofString "eq_s") (Str.ofString "BaseStemmer.eq_s") (fnA (clsS 2 12)) (FuncBody.stmts (fnB (clsS 2 12))) (fnC (clsS 2 4)) 3 [] Value.none Value.none Value.none (Value.str (Str.ofString "snowballstemmer.basestemmer") 194) Option.none (Value.ref 118) Value.none 0)) (List.toArray []))
noncomputable def o79 (E : Wd) : Obj := (Obj.mk (Value.type "tuple") Option.none (Data.seq (List.toArray [(Value.str (Str.ofString "self") 313), (Value.str (Str.ofString "s") 314)]) 0) (List.toArray []))
noncomputable def o80 (E : Wd) : Obj := (Obj.mk Value.none Option.none (Data.func (FuncData.mk (Str.ofString "eq_s_b") (Str.ofString "BaseStemmer.eq_s_b") (fnA (clsS 2 13)) (FuncBody.stmts (fnB (clsS 2 13))) (fnC (clsS 2 13)) 0 [] Value.none Value.none Value.none Value.none Option.none Value.none Value.none 0)) (List.toArray []))
noncomputable def o81 (E : Wd) : Obj := (Obj.mk (Value.type "code") Option.none (Data.fields (List.toArray [(Value.str (Str.ofString "eq_s_b") 310), (Value.str (Str.ofString "BaseStemmer.eq_s_b") 311), (Value.str (Str.ofString "/claim/cut.py") 312), (Value.int (64 : Int) 0), (Value.int (2 : Int) 0), (Value.int (0 : Int) 0), (Value.int (0 : Int) 0), (Value.int (3 : Int) 0), (Value.ref 120), (Value.bool Bool.true), (Value.int (181 : Int) 0), (Value.ref 121), Value.none, (Value.ref 122), (Value.ref 123), (Value.ref 124), (Value.int (315 : Int) 0), (Value.int (64 : Int) 0), (Value.str (Str.ofString "/claim/cut.py") 316)])) (List.toArray []))
noncomputable def o82 (E : Wd) : Obj := (Obj.mk (Value.type "function") Option.none (Data.func (FuncData.mk (Str.ofString "eq_s_b") (Str.ofString "BaseStemmer.eq_s_b") (fnA (clsS 2 13)) (FuncBody.stmts (fnB (clsS 2 13))) (fnC (clsS 2 13)) 3 [] Value.none Value.none Value.none (Value.str (Str.ofString "snowballstemmer.basestemmer") 194) Option.none (Value.ref 125) Value.none 0)) (List.toArray []))
noncomputable def o83 (E : Wd) : Obj := (Obj.mk (Value.type "tuple") Option.none (Data.seq (List.toArray [(Value.str (Str.ofString "self") 321), (Value.str (Str.ofString "v") 322)]) 0) (List.toArray []))
noncomputable def o84 (E : Wd) : Obj := (Obj.mk Value.none Option.none (Data.func (FuncData.mk (Str.ofString "find_among") (Str.ofString "BaseStemmer.find_among") (fnA (clsS 2 14)) (FuncBody.stmts (fnB (clsS 2 14))) (fnC (clsS 2 14)) 0 [] Value.none Value.none Value.none Value.none Option.none Value.none Value.none 0)) (List.toArray []))
noncomputable def o85 (E : Wd) : Obj := (Obj.mk (Value.type "code") Option.none (Data.fields (List.toArray [(Value.str (Str.ofString "find_among") 318), (Value.str (Str.ofString "BaseStemmer.find_among") 319), (Value.str (Str.ofString "/claim/cut.py") 320), (Value.int (70 : Int) 0), (Value.int (2 : Int) 0), (Value.int (0 : Int) 0), (Value.int (0 : Int) 0), (Value.int (3 : Int) 0), (Value.ref 127), (Value.bool Bool.true), (Value.int (181 : Int) 0), (Value.ref 128), Value.none, (Value.ref 129), (Value.ref 130), (Value.ref 131), (Value.int (323 : Int) 0), (Value.int (70 : Int) 0), (Value.str (Str.ofString "/claim/cut.py") 324)])) (List.toArray []))
noncomputable def o86 (E : Wd) : Obj := (Obj.mk (Value.type "function") Option.none (Data.func (FuncData.mk (Str.ofString "find_among") (Str.ofString "BaseStemmer.find_among") (fnA (clsS 2 14)) (FuncBody.stmts (fnB (clsS 2 14))) (fnC (clsS 2 14)) 3 [] Value.none Value.none Value.none (Value.str (Str.ofString "snowballstemmer.basestemmer") 194) Option.none (Value.ref 132) Value.none 0)) (List.toArray []))
noncomputable def o87 (E : Wd) : Obj := (Obj.mk (Value.type "tuple") Option.none (Data.seq (List.toArray [(Value.str (Str.ofString "self") 329), (Value.str (Str.ofString "v") 330), (Value.str (Str.ofString "i") 331), (Value.str (Str.ofString "j") 332), (Value.str (Str.ofString "c") 333), (Value.str (Str.ofString "lb") 334), (Value.str (Str.ofString "common_i") 335), (Value.str (Str.ofString "common_j") 336), (Value.str (Str.ofString "first_key_inspected") 337), (Value.str (Str.ofString "k") 338), (Value.str (Str.ofString "diff") 339), (Value.str (Str.ofString "common") 340), (Value.str (Str.ofString "w") 341), (Value.str (Str.ofString "i2") 342)]) 0) (List.toArray []))
noncomputable def o88 (E : Wd) : Obj := (Obj.mk Value.none Option.none (Data.func (FuncData.mk (Str.ofString "find_among_b") (Str.ofString "BaseStemmer.find_among_b") (fnA (clsS 2 15)) (FuncBody.stmts (fnB (clsS 2 15))) (fnC (clsS 2 15)) 0 [] Value.none Value.none Value.none Value.none Option.none Value.none Value.none 0)) (List.toArray []))
noncomputable def o89 (E : Wd) : Obj := (Obj.mk (Value.type "code") Option.none (Data.fields (List.toArray [(Value.str (Str.ofString "find_among_b") 326), (Value.str (Str.ofString "BaseStemmer.find_among_b") 327), (Value.str (Str.ofString "/claim/cut.py") 328), (Value.int (73 : Int) 0), (Value.int (2 : Int) 0), (Value.int (0 : Int) 0), (Value.int (0 : Int) 0), (Value.int (3 : Int) 0), (Value.ref 134), (Value.bool Bool.true), (Value.int (181 : Int) 0), (Value.ref 135), Value.none, (Value.ref 136), (Value.ref 137), (Value.ref 138), (Value.int (343 : Int) 0), (Value.int (73 : Int) 0), (Value.str (Str.ofString "/claim/cut.py") 344)])) (List.toArray []))
noncomputable def o90 (E : Wd) : Obj := (Obj.mk (Value.type "function") Option.none (Data.func (FuncData.mk (Str.ofString "find_among_b") (Str.ofString "BaseStemmer.find_among_b") (fnA (clsS 2 15)) (FuncBody.stmts (fnB (clsS 2 15))) (fnC (clsS 2 15)) 3 [] Value.none Value.none Value.none (Value.str (Str.ofString "snowballstemmer.basestemmer") 194) Option.none (Value.ref 139) Value.none 0)) (List.toArray []))
noncomputable def o91 (E : Wd) : Obj := (Obj.mk (Value.type "tuple") Option.none (Data.seq (List.toArray [(Value.str (Str.ofString "self") 349), (Value.str (Str.ofString "c_bra") 350), (Value.str (Str.ofString "c_ket") 351), (Value.str (Str.ofString "s") 352), (Value.str (Str.ofString "adjustment") 353)]) 0) (List.toArray []))
noncomputable def o92 (E : Wd) : Obj := (Obj.mk Value.none Option.none (Data.func (FuncData.mk (Str.ofString "replace_s") (Str.ofString "BaseStemmer.replace_s") (fnA (clsS 2 16)) (FuncBody.stmts (fnB (clsS 2 16))) (fnC (clsS 2 16)) 0 [] Value.none Value.none Value.none Value.none Option.none Value.none Value.none 0)) (List.toArray []))
noncomputable def o93 (E : Wd) : Obj := (Obj.mk (Value.type "code") Option.none (Data.fields (List.toArray [(Value.str (Str.ofString "replace_s") 346), (Value.str (Str.ofString "BaseStemmer.replace_s") 347), (Value.str (Str.ofString "/claim/cut.py") 348), (Value.int (118 : Int) 0), (Value.int (4 : Int) 0), (Value.int (0 : Int) 0), (Value.int (0 : Int) 0), (Value.int (3 : Int) 0), (Value.ref 141), (Value.bool Bool.true), (Value.int (181 : Int) 0), (Value.ref 142), Value.none, (Value.ref 143), (Value.ref 144), (Value.ref 145), (Value.int (354 : Int) 0), (Value.int (118 : Int) 0), (Value.str (Str.ofString "/claim/cut.py") 355)])) (List.toArray []))
noncomputable def o94 (E : Wd) : Obj := (Obj.mk (Value.type "function") Option.none (Data.func (FuncData.mk (Str.ofString "replace_s") (Str.ofString "BaseStemmer.replace_s") (fnA (clsS 2 16)) (FuncBody.stmts (fnB (clsS 2 16))) (fnC (clsS 2 16)) 3 [] Value.none Value.none Value.none (Value.str (Str.ofString "snowballstemmer.basestemmer") 194) Option.none (Value.ref 146) Value.none 0)) (List.toArray []))
noncomputable def o95 (E : Wd) : Obj := (Obj.mk (Value.type "tuple") Option.none (Data.seq (List.toArray [(Value.str (Str.ofString "self") 360), (Value.str (Str.ofString "s") 361)]) 0) (List.toArray []))
noncomputable def o96 (E : Wd) : Obj := (Obj.mk Value.none Option.none (Data.func (FuncData.mk (Str.ofString "slice_from") (Str.ofString "BaseStemmer.slice_from") (fnA (clsS 2 17)) (FuncBody.stmts (fnB (clsS 2 17))) (fnC (clsS 2 13)) 0 [] Value.none Value.none Value.none Value.none Option.none Value.none Value.none 0)) (List.toArray []))
noncomputable def o97 (E : Wd) : Obj := (Obj.mk (Value.type "code") Option.none (Data.fields (List.toArray [(Value.str (Str.ofString "slice_from") 357), (Value.str (Str.ofString "BaseStemmer.slice_from") 358), (Value.str (Str.ofString "/claim/cut.py") 359), (Value.int (128 : Int) 0), (Value.int (2 : Int) 0), (Value.int (0 : Int) 0), (Value.int (0 : Int) 0), (Value.int (3 : Int) 0), (Value.ref 148), (Value.bool Bool.true), (Value.int (181 : Int) 0), (Value.ref 149), Value.none, (Value.ref 150), (Value.ref 151), (Value.ref 152), (Value.int (362 : Int) 0), (Value.int (128 : Int) 0), (Value.str (Str.ofString "/claim/cut.py") 363)])) (List.toArray []))
noncomputable def o98 (E : Wd) : Obj := (Obj.mk (Value.type "function") Option.none (Data.func (FuncData.mk (Str.ofString "slice_from") (Str.ofString "BaseStemmer.slice_from") (fnA (clsS 2 17)) (FuncBody.stmts (fnB (clsS 2 17))) (fnC (clsS 2 13)) 3 [] Value.none Value.none Value.none (Value.str (Str.ofString "snowballstemmer.basestemmer") 194) Option.none (Value.ref 153) Value.none 0)) (List.toArray []))
noncomputable def o99 (E : Wd) : Obj := (Obj.mk (Value.type "tuple") Option.none (Data.seq (List.toArray [(Value.str (Str.ofString "self") 368)]) 0) (List.toArray []))
noncomputable def o100 (E : Wd) : Obj := (Obj.mk Value.none Option.none (Data.func (FuncData.mk (Str.ofString "slice_del") (Str.ofString "BaseStemmer.slice_del") (fnA (clsS 2 18)) (FuncBody.stmts (fnB (clsS 2 18))) (fnC (clsS 2 0)) 0 [] Value.none Value.none Value.none Value.none Option.none Value.none Value.none 0)) (List.toArray []))
noncomputable def o101 (E : Wd) : Obj := (Obj.mk (Value.type "code") Option.none (Data.fields (List.toArray [(Value.str (Str.ofString "slice_del") 365), (Value.str (Str.ofString "BaseStemmer.slice_del") 366), (Value.str (Str.ofString "/claim/cut.py") 367), (Value.int (136 : Int) 0), (Value.int (1 : Int) 0), (Value.int (0 : Int) 0), (Value.int (0 : Int) 0), (Value.int (3 : Int) 0), (Value.ref 155), (Value.bool Bool.true), (Value.int (181 : Int) 0), (Value.ref 156), Value.none, (Value.ref 157), (Value.ref 158), (Value.ref 159), (Value.int (369 : Int) 0), (Value.int (136 : Int) 0), (Value.str (Str.ofString "/claim/cut.py") 370)])) (List.toArray []))
noncomputable def o102 (E : Wd) : Obj := (Obj.mk (Value.type "function") Option.none (Data.func (FuncData.mk (Str.ofString "slice_del") (Str.ofString "BaseStemmer.slice_del") (fnA (clsS 2 18)) (FuncBody.stmts (fnB (clsS 2 18))) (fnC (clsS 2 0)) 3 [] Value.none Value.none Value.none (Value.str (Str.ofString "snowballstemmer.basestemmer") 194) Option.none (Value.ref 160) Value.none 0)) (List.toArray []))
noncomputable def o103 (E : Wd) : Obj := (Obj.mk (Value.type "tuple") Option.none (Data.seq (List.toArray [(Value.str (Str.ofString "self") 375), (Value.str (Str.ofString "c_bra") 376), (Value.str (Str.ofString "c_ket") 377), (Value.str (Str.ofString "s") 378)]) 0) (List.toArray []))
noncomputable def o104 (E : Wd) : Obj := (Obj.mk Value.none Option.none (Data.func (FuncData.mk (Str.ofString "insert") (Str.ofString "BaseStemmer.insert") (fnA (clsS 2 19)) (FuncBody.stmts (fnB (clsS 2 19))) (fnC (clsS 2 19)) 0 [] Value.none Value.none Value.none Value.none Option.none Value.none Value.none 0)) (List.toArray []))
noncomputable def o105 (E : Wd) : Obj := (Obj.mk (Value.type "code") Option.none (Data.fields (List.toArray [(Value.str (Str.ofString "insert") 372), (Value.str (Str.ofString "BaseStemmer.insert") 373), (Value.str (Str.ofString "/claim/cut.py") 374), (Value.int (139 : Int) 0), (Value.int (4 : Int) 0), (Value.int (0 : Int) 0), (Value.int (0 : Int) 0), (Value.int (3 : Int) 0), (Value.ref 162), (Value.bool Bool.true), (Value.int (181 : Int) 0), (Value.ref 163), Value.none, (Value.ref 164), (Value.ref 165), (Value.ref 166), (Value.int (379 : Int) 0), (Value.int (139 : Int) 0), (Value.str (Str.ofString "/claim/cut.py") 380)])) (List.toArray []))
noncomputable def o106 (E : Wd) : Obj := (Obj.mk (Value.type "function") Option.none (Data.func (FuncData.mk (Str.ofString "insert") (Str.ofString "BaseStemmer.insert") (fnA (clsS 2 19)) (FuncBody.stmts (fnB (clsS 2 19))) (fnC (clsS 2 19)) 3 [] Value.none Value.none Value.none (Value.str (Str.ofString "snowballstemmer.basestemmer") 194) Option.none (Value.ref 167) Value.none 0)) (List.toArray []))
noncomputable def o107 (E : Wd) : Obj := (Obj.mk (Value.type "tuple") Option.none (Data.seq (List.toArray [(Value.str (Str.ofString "self") 385)]) 0) (List.toArray []))
noncomputable def o108 (E : Wd) : Obj := (Obj.mk Value.none Option.none (Data.func (FuncData.mk (Str.ofString "slice_to") (Str.ofString "BaseStemmer.slice_to") (fnA (clsS 2 20)) (FuncBody.stmts (fnB (clsS 2 20))) (fnC (clsS 2 20)) 0 [] Value.none Value.none Value.none Value.none Option.none Value.none Value.none 0)) (List.toArray []))
noncomputable def o109 (E : Wd) : Obj := (Obj.mk (Value.type "code") Option.none (Data.fields (List.toArray [(Value.str (Str.ofString "slice_to") 382), (Value.str (Str.ofString "BaseStemmer.slice_to") 383), (Value.str (Str.ofString "/claim/cut.py") 384), (Value.int (142 : Int) 0), (Value.int (1 : Int) 0), (Value.int (0 : Int) 0), (Value.int (0 : Int) 0), (Value.int (3 : Int) 0), (Value.ref 169), (Value.bool Bool.true), (Value.int (181 : Int) 0), (Value.ref 170), Value.none, (Value.ref 171), (Value.ref 172), (Value.ref 173), (Value.int (386 : Int) 0), (Value.int (142 : Int) 0), (Value.str (Str.ofString "/claim/cut.py") 387)])) (List.toArray []))
noncomputable def o110 (E : Wd) : Obj := (Obj.mk (Value.type "function") Option.none (Data.func (FuncData.mk (Str.ofString "slice_to") (Str.ofString "BaseStemmer.slice_to") (fnA (clsS 2 20)) (FuncBody.stmts (fnB (clsS 2 20))) (fnC (clsS 2 20)) 3 [] Value.none Value.none Value.none (Value.str (Str.ofString "snowballstemmer.basestemmer") 194) Option.none (Value.ref 174) Value.none 0)) (List.toArray []))
noncomputable def o111 (E : Wd) : Obj := (Obj.mk (Value.type "tuple") Option.none (Data.seq (List.toArray [(Value.str (Str.ofString "self") 392)]) 0) (List.toArray []))
noncomputable def o112 (E : Wd) : Obj := (Obj.mk Value.none Option.none (Data.func (FuncData.mk (Str.ofString "assign_to") (Str.ofString "BaseStemmer.assign_to") (fnA (clsS 2 21)) (FuncBody.stmts (fnB (clsS 2 21))) (fnC (clsS 2 21)) 0 [] Value.none Value.none Value.none Value.none Option.none Value.none Value.none 0)) (List.toArray []))
noncomputable def o113 (E : Wd) : Obj := (Obj.mk (Value.type "code") Option.none (Data.fields (List.toArray [(Value.str (Str.ofString "assign_to") 389), (Value.str (Str.ofString "BaseStemmer.assign_to") 390), (Value.str (Str.ofString "/claim/cut.py") 391), (Value.int (149 : Int) 0), (Value.int (1 : Int) 0), (Value.int (0 : Int) 0), (Value.int (0 : Int) 0), (Value.int (3 : Int) 0), (Value.ref 176), (Value.bool Bool.true), (Value.int (181 : Int) 0), (Value.ref 177), Value.none, (Value.ref 178), (Value.ref 179), (Value.ref 180), (Value.int (393 : Int) 0), (Value.int (149 : Int) 0), (Value.str (Str.ofString "/claim/cut.py") 394)])) (List.toArray []))
noncomputable def o114 (E : Wd) : Obj := (Obj.mk (Value.type "function") Option.none (Data.func (FuncData.mk (Str.ofString "assign_to") (Str.ofString "BaseStemmer.assign_to") (fnA (clsS 2 21)) (FuncBody.stmts (fnB (clsS 2 21))) (fnC (clsS 2 21)) 3 [] Value.none Value.none Value.none (Value.str (Str.ofString "snowballstemmer.basestemmer") 194) Option.none (Value.ref 181) Value.none 0)) (List.toArray []))
noncomputable def o115 (E : Wd) : Obj := (Obj.mk (Value.type "tuple") Option.none (Data.seq (List.toArray [(Value.str (Str.ofString "self") 399), (Value.str (Str.ofString "word") 400)]) 0) (List.toArray []))
noncomputable def o116 (E : Wd) : Obj := (Obj.mk Value.none Option.none (Data.func (FuncData.mk (Str.ofString "stemWord") (Str.ofString "BaseStemmer.stemWord") (fnA (clsS 2 22)) (FuncBody.stmts (fnB (clsS 2 22))) (fnC (clsS 2 22)) 0 [] Value.none Value.none Value.none Value.none Option.none Value.none Value.none 0)) (List.toArray []))
noncomputable def o117 (E : Wd) : Obj := (Obj.mk (Value.type "code") Option.none (Data.fields (List.toArray [(Value.str (Str.ofString "stemWord") 396), (Value.str (Str.ofString "BaseStemmer.stemWord") 397), (Value.str (Str.ofString "/claim/cut.py") 398), (Value.int (152 : Int) 0), (Value.int (2 : Int) 0), (Value.int (0 : Int) 0), (Value.int (0 : Int) 0), (Value.int (3 : Int) 0), (Value.ref 183), (Value.bool Bool.true), (Value.int (181 : Int) 0), (Value.ref 184), Value.none, (Value.ref 185), (Value.ref 186), (Value.ref 187), (Value.int (401 : Int) 0), (Value.int (152 : Int) 0), (Value.str (Str.ofString "/claim/cut.py") 402)])) (List.toArray []))
noncomputable def o118 (E : Wd) : Obj := (Obj.mk (Value.type "function") Option.none (Data.func (FuncData.mk (Str.ofString "stemWord") (Str.ofString "BaseStemmer.stemWord") (fnA (clsS 2 22)) (FuncBody.stmts (fnB (clsS 2 22))) (fnC (clsS 2 22)) 3 [] Value.none Value.none Value.none (Value.str (Str.ofString "snowballstemmer.basestemmer") 194) Option.none (Value.ref 188) Value.none 0)) (List.toArray []))
noncomputable def o119 (E : Wd) : Obj := (Obj.mk Value.none Option.none (Data.func (FuncData.mk (Str.ofString "stemWords") (Str.ofString "BaseStemmer.stemWords") (fnA (clsS 2 23)) (FuncBody.stmts (fnB (clsS 2 23))) (fnC (clsS 2 23)) 0 [] Value.none Value.none Value.none Value.none Option.none Value.none Value.none 0)) (List.toArray []))
noncomputable def o120 (E : Wd) : Obj := (Obj.mk (Value.type "code") Option.none (Data.fields (List.toArray [(Value.str (Str.ofString "stemWords") 404), (Value.str (Str.ofString "BaseStemmer.stemWords") 405), (Value.str (Str.ofString "/claim/cut.py") 406), (Value.int (157 : Int) 0), (Value.int (2 : Int) 0), (Value.int (0 : Int) 0), (Value.int (0 : Int) 0), (Value.int (3 : Int) 0), (Value.ref 190), (Value.bool Bool.true), (Value.int (181 : Int) 0), (Value.ref 191), Value.none, Value.none, Value.none, (Value.ref 192), (Value.int (407 : Int) 0), (Value.int (157 : Int) 0), (Value.str (Str.ofString "/claim/cut.py") 408)])) (List.toArray []))
noncomputable def o121 (E : Wd) : Obj := (Obj.mk (Value.type "function") Option.none (Data.func (FuncData.mk (Str.ofString "stemWords") (Str.ofString "BaseStemmer.stemWords") (fnA (clsS 2 23)) (FuncBody.stmts (fnB (clsS 2 23))) (fnC (clsS 2 23)) 3 [] Value.none Value.none Value.none (Value.str (Str.ofString "snowballstemmer.basestemmer") 194) Option.none (Value.ref 193) Value.none 0)) (List.toArray []))
noncomputable def o122 (E : Wd) : Obj := (Obj.mk (Value.type "tuple") Option.none (Data.seq (List.toArray [(Value.str (Str.ofString "bra") 410), (Value.str (Str.ofString "current") 411), (Value.str (Str.ofString "cursor") 412), (Value.str (Str.ofString "ket") 413), (Value.str (Str.ofString "limit") 414), (Value.str (Str.ofString "limit_backward") 415)]) 0) (List.toArray []))
noncomputable def o123 (E : Wd) : Obj := (Obj.mk (Value.type "dict") Option.none (Data.dict (List.toArray [(DictEntry.mk (PyData.keyHash E.P (Str.ofString "__module__")) (Value.str (Str.ofString "__module__") 203) (Value.str (Str.ofString "snowballstemmer.basestemmer") 194)), (DictEntry.mk (PyData.keyHash E.P (Str.ofString "__firstlineno__")) (Value.str (Str.ofString "__firstlineno__") 207) (Value.int (5 : Int) 206)), (DictEntry.mk (PyData.keyHash E.P (Str.ofString "__init__")) (Value.str (Str.ofString "__init__") 214) (Value.ref 35)), (DictEntry.mk (PyData.keyHash E.P (Str.ofString "set_current")) (Value.str (Str.ofString "set_current") 222) (Value.ref 42)), (DictEntry.mk (PyData.keyHash E.P (Str.ofString "get_current")) (Value.str (Str.ofString "get_current") 229) (Value.ref 49)), (DictEntry.mk (PyData.keyHash E.P (Str.ofString "copy_from")) (Value.str (Str.ofString "copy_from") 237) (Value.ref 56)), (DictEntry.mk (PyData.keyHash E.P (Str.ofString "in_grouping")) (Value.str (Str.ofString "in_grouping") 245) (Value.ref 63)), (DictEntry.mk (PyData.keyHash E.P (Str.ofString "go_in_grouping")) (Value.str (Str.ofString "go_in_grouping") 253) (Value.ref 70)), (DictEntry.mk (PyData.keyHash E.P (Str.ofString "in_grouping_b")) (Value.str (Str.ofString "in_grouping_b") 261) (Value.ref 77)), (DictEntry.mk (PyData.keyHash E.P (Str.ofString "go_in_grouping_b")) (Value.str (Str.ofString "go_in_grouping_b") 269) (Value.ref 84)), (DictEntry.mk (PyData.keyHash E.P (Str.ofString "out_grouping")) (Value.str (Str.ofString "out_grouping") 277) (Value.ref 91)), (DictEntry.mk (PyData.keyHash E.P (Str.ofString "go_out_grouping")) (Value.str (Str.ofString "go_out_grouping") 285) (Value.ref 98)), (DictEntry.mk (PyData.keyHash E.P (Str.ofString "out_grouping_b")) (Value.str (Str.ofString "out_grouping_b") 293) (Value.ref 105)), (DictEntry.mk (PyData.keyHash E.P (Str.ofString "go_out_grouping_b")) (Value.str (Str.ofString "go_out_grouping_b") 301) (Value.ref 112)), (DictEntry.mk (PyData.keyHash E.P (Str.ofString "eq_s")) (Value.str (Str.ofString "eq_s") 309) (Value.ref 119)), (DictEntry.mk (PyData.keyHash E.P (Str.ofString "eq_s_b")) (Value.str (Str.ofString "eq_s_b") 317) (Value.ref 126)), (DictEntry.mk (PyData.keyHash E.P (Str.ofString "find_among")) (Value.str (Str.ofString "find_among") 325) (Value.ref 133)), (DictEntry.mk (PyData.keyHash E.P (Str.ofString "find_among_b")) (Value.str (Str.ofString "find_among_b") 345) (Value.ref 140)), (DictEntry.mk (PyData.keyHash E.P (Str.ofString "replace_s")) (Value.str (Str.ofString "replace_s") 356) (Value.ref 147)), (DictEntry.mk (PyData.keyHash E.P (Str.ofString "slice_from")) (Value.str (Str.ofString "slice_from") 364) (Value.ref 154)), (DictEntry.mk (PyData.keyHash E.P (Str.ofString "slice_del")) (Value.str (Str.ofString "slice_del") 371) (Value.ref 161)), (DictEntry.mk (PyData.keyHash E.P (Str.ofString "insert")) (Value.str (Str.ofString "insert") 381) (Value.ref 168)), (DictEntry.mk (PyData.keyHash E.P (Str.ofString "slice_to")) (Value.str (Str.ofString "slice_to") 388) (Value.ref 175)), (DictEntry.mk (PyData.keyHash E.P (Str.ofString "assign_to")) (Value.str (Str.ofString "assign_to") 395) (Value.ref 182)), (DictEntry.mk (PyData.keyHash E.P (Str.ofString "stemWord")) (Value.str (Str.ofString "stemWord") 403) (Value.ref 189)), (DictEntry.mk (PyData.keyHash E.P (Str.ofString "stemWords")) (Value.str (Str.ofString "stemWords") 409) (Value.ref 194)), (DictEntry.mk (PyData.keyHash E.P (Str.ofString "__static_attributes__")) (Value.str (Str.ofString "__static_attributes__") 416) (Value.ref 195)), (DictEntry.mk (PyData.keyHash E.P (Str.ofString "__dict__")) (Value.str (Str.ofString "__dict__") 418) (Value.ref 198)), (DictEntry.mk (PyData.keyHash E.P (Str.ofString "__weakref__")) (Value.str (Str.ofString "__weakref__") 420) (Value.ref 199)), (DictEntry.mk (PyData.keyHash E.P (Str.ofString "__doc__")) (Value.str (Str.ofString "__doc__") 421) Value.none)]) 4) (List.toArray []))
noncomputable def o124 (E : Wd) : Obj := (Obj.mk (Value.type "type") Option.none (Data.cls (ClassData.mk (Str.ofString "BaseStemmer") [(Value.type "object")] [(Value.ref 197), (Value.type "object")] 196 (Str.ofString "BaseStemmer") Bool.true [] [] Bool.false Option.none Bool.false)) (List.toArray [Option.none, Option.none, (Option.some (Value.str (Str.ofString "BaseStemmer") 196)), (Option.some (Value.str (Str.ofString "BaseStemmer") 204)), (Option.some (Value.builtin "object.__new__")), (Option.some (Value.bool Bool.true))]))
noncomputable def o125 (E : Wd) : Obj := (Obj.mk (Value.type "getset_descriptor") Option.none (Data.fields (List.toArray [(Value.str (Str.ofString "__dict__") 417), (Value.ref 197), (Value.builtin "function.__dict__"), (Value.builtin "function.__dict__#set")])) (List.toArray []))
noncomputable def o126 (E : Wd) : Obj := (Obj.mk (Value.type "getset_descriptor") Option.none (Data.fields (List.toArray [(Value.str (Str.ofString "__weakref__") 419), (Value.ref 197), (Value.builtin "ExceptionGroup.__weakref__"), Value.none])) (List.toArray []))
noncomputable def o127 (E : Wd) : Obj := (Obj.mk (Value.type "super") Option.none (Data.fields (List.toArray [(Value.ref 197), (Value.ref 197), (Value.ref 197)])) (List.toArray []))
noncomputable def o128 (E : Wd) : Obj := (Obj.mk (Value.type "builtin_function_or_method") Option.none (Data.fields (List.toArray [(Value.builtin "object.__init_subclass__"), (Value.ref 197)])) (List.toArray []))
noncomputable def o129 (E : Wd) : Obj := (Obj.mk (Value.type "dict") Option.none (Data.dict (List.toArray [(DictEntry.mk (PyData.keyHash E.P (Str.ofString "__module__")) (Value.str (Str.ofString "__module__") 433) (Value.str (Str.ofString "snowballstemmer.among") 424)), (DictEntry.mk (PyData.keyHash E.P (Str.ofString "__qualname__")) (Value.str (Str.ofString "__qualname__") 435) (Value.str (Str.ofString "Among") 434)), (DictEntry.mk (PyData.keyHash E.P (Str.ofString "__firstlineno__")) (Value.str (Str.ofString "__firstlineno__") 437) (Value.int (160 : Int) 436)), (DictEntry.mk (PyData.keyHash E.P (Str.ofString "__init__")) (Value.str (Str.ofString "__init__") 447) (Value.ref 215)), (DictEntry.mk (PyData.keyHash E.P (Str.ofString "__static_attributes__")) (Value.str (Str.ofString "__static_attributes__") 451) (Value.ref 216))]) 5) (List.toArray []))
noncomputable def o130 (E : Wd) : Obj := (Obj.mk Value.none Option.none (Data.fields (List.toArray [(Value.int (162 : Int) 0), (Value.int (4 : Int) 0), (Value.ref 214)])) (List.toArray []))
noncomputable def o131 (E : Wd) : Obj := (Obj.mk (Value.type "code") Option.none (Data.fields (List.toArray [(Value.str (Str.ofString "Among") 428), (Value.str (Str.ofString "Among") 429), (Value.str (Str.ofString "/claim/cut.py") 430), (Value.int (160 : Int) 0), (Value.int (0 : Int) 0), (Value.int (0 : Int) 0), (Value.int (0 : Int) 0), (Value.int (0 : Int) 0), (Value.ref 205), (Value.bool Bool.false), (Value.int (181 : Int) 0), (Value.ref 206), Value.none, Value.none, Value.none, Value.none, (Value.int (431 : Int) 0), (Value.int (160 : Int) 0), (Value.str (Str.ofString "/claim/cut.py") 432)])) (List.toArray []))
noncomputable def o132 (E : Wd) : Obj := (Obj.mk (Value.type "frame") Option.none Data.plain (List.toArray [(Option.some (Value.ref 207)), (Option.some (Value.ref 3)), (Option.some (Value.ref 204)), Option.none, (Option.some (Value.str (Str.ofString "snowballstemmer.among") 424)), Option.none, (Option.some (Value.ref 0))]))
noncomputable def o133 (E : Wd) : Obj := (Obj.mk (Value.type "tuple") Option.none (Data.seq (List.toArray [(Value.str (Str.ofString "self") 441), (Value.str (Str.ofString "s") 442), (Value.str (Str.ofString "substring_i") 443), (Value.str (Str.ofString "result") 444)]) 0) (List.toArray []))
noncomputable def o134 (E : Wd) : Obj := (Obj.mk Value.none Option.none (Data.func (FuncData.mk (Str.ofString "__init__") (Str.ofString "Among.__init__") (fnA (clsS 4 0)) (FuncBody.stmts (fnB (clsS 4 0))) (fnC (clsS 4 0)) 0 [] Value.none Value.none Value.none Value.none Option.none Value.none Value.none 0)) (List.toArray []))
noncomputable def o135 (E : Wd) : Obj := (Obj.mk (Value.type "code") Option.none (Data.fields (List.toArray [(Value.str (Str.ofString "__init__") 438), (Value.str (Str.ofString "Among.__init__") 439), (Value.str (Str.ofString "/claim/cut.py") 440), (Value.int (162 : Int) 0), (Value.int (4 : Int) 0), (Value.int (0 : Int) 0), (Value.int (0 : Int) 0), (Value.int (3 : Int) 0), (Value.ref 209), (Value.bool Bool.true), (Value.int (181 : Int) 0), (Value.ref 210), Value.none, (Value.ref 211), (Value.ref 212), (Value.ref 213), (Value.int (445 : Int) 0), (Value.int (162 : Int) 0), (Value.str (Str.ofString "/claim/cut.py") 446)])) (List.toArray []))
noncomputable def o136 (E : Wd) : Obj := (Obj.mk (Value.type "function") Option.none (Data.func (FuncData.mk (Str.ofString "__init__") (Str.ofString "Among.__init__") (fnA (clsS 4 0)) (FuncBody.stmts (fnB (clsS 4 0))) (fnC (clsS 4 0)) 3 [] Value.none Value.none Value.none (Value.str (Str.ofString "snowballstemmer.among") 424) Option.none (Value.ref 214) Value.none 0)) (List.toArray []))
noncomputable def o137 (E : Wd) : Obj := (Obj.mk (Value.type "tuple") Option.none (Data.seq (List.toArray [(Value.str (Str.ofString "result") 448), (Value.str (Str.ofString "s") 449), (Value.str (Str.ofString "substring_i") 450)]) 0) (List.toArray []))
noncomputable def o138 (E : Wd) : Obj := (Obj.mk (Value.type "dict") Option.none (Data.dict (List.toArray [(DictEntry.mk (PyData.keyHash E.P (Str.ofString "__module__")) (Value.str (Str.ofString "__module__") 433) (Value.str (Str.ofString "snowballstemmer.among") 424)), (DictEntry.mk (PyData.keyHash E.P (Str.ofString "__firstlineno__")) (Value.str (Str.ofString "__firstlineno__") 437) (Value.int (160 : Int) 436)), (DictEntry.mk (PyData.keyHash E.P (Str.ofString "__init__")) (Value.str (Str.ofString "__init__") 447) (Value.ref 215)), (DictEntry.mk (PyData.keyHash E.P (Str.ofString "__static_attributes__")) (Value.str (Str.ofString "__static_attributes__") 451) (Value.ref 216)), (DictEntry.mk (PyData.keyHash E.P (Str.ofString "__dict__")) (Value.str (Str.ofString "__dict__") 453) (Value.ref 219)), (DictEntry.mk (PyData.keyHash E.P (Str.ofString "__weakref__")) (Value.str (Str.ofString "__weakref__") 455) (Value.ref 220)), (DictEntry.mk (PyData.keyHash E.P (Str.ofString "__doc__")) (Value.str (Str.ofString "__doc__") 456) Value.none)]) 4) (List.toArray []))
noncomputable def o139 (E : Wd) : Obj := (Obj.mk (Value.type "type") Option.none (Data.cls (ClassData.mk (Str.ofString "Among") [(Value.type "object")] [(Value.ref 218), (Value.type "object")] 217 (Str.ofString "Among") Bool.true [] [] Bool.false Option.none Bool.false)) (List.toArray [Option.none, Option.none, (Option.some (Value.str (Str.ofString "Among") 426)), (Option.some (Value.str (Str.ofString "Among") 434)), (Option.some (Value.builtin "object.__new__")), (Option.some (Value.bool Bool.true))]))
noncomputable def o140 (E : Wd) : Obj := (Obj.mk (Value.type "getset_descriptor") Option.none (Data.fields (List.toArray [(Value.str (Str.ofString "__dict__") 452), (Value.ref 218), (Value.builtin "function.__dict__"), (Value.builtin "function.__dict__#set")])) (List.toArray []))
noncomputable def o141 (E : Wd) : Obj := (Obj.mk (Value.type "getset_descriptor") Option.none (Data.fields (List.toArray [(Value.str (Str.ofString "__weakref__") 454), (Value.ref 218), (Value.builtin "ExceptionGroup.__weakref__"), Value.none])) (List.toArray []))
noncomputable def o142 (E : Wd) : Obj := (Obj.mk (Value.type "super") Option.none (Data.fields (List.toArray [(Value.ref 218), (Value.ref 218), (Value.ref 218)])) (List.toArray []))
noncomputable def o143 (E : Wd) : Obj := (Obj.mk (Value.type "builtin_function_or_method") Option.none (Data.fields (List.toArray [(Value.builtin "object.__init_subclass__"), (Value.ref 218)])) (List.toArray []))
noncomputable def n144 (E : Wd) : BT := BT.node (o46 E) (n3 E) (n9 E)
noncomputable def n145 (E : Wd) : BT := BT.node (o100 E) BT.nil BT.nil
noncomputable def n146 (E : Wd) : BT := BT.node (boot_o_7 E.P) (n145 E) BT.nil
noncomputable def n147 (E : Wd) : BT := BT.node (o27 E) (n144 E) (n146 E)
noncomputable def n148 (E : Wd) : BT := BT.node (o91 E) BT.nil BT.nil
noncomputable def n149 (E : Wd) : BT := BT.node (o131 E) BT.nil BT.nil
noncomputable def n150 (E : Wd) : BT := BT.node (boot_o_8 E.P) (n148 E) (n149 E)
noncomputable def n151 (E : Wd) : BT := BT.node (o110 E) BT.nil BT.nil
noncomputable def n152 (E : Wd) : BT := BT.node (o73 E) (n151 E) BT.nil
noncomputable def n153 (E : Wd) : BT := BT.node (o36 E) (n150 E) (n152 E)
noncomputable def n154 (E : Wd) : BT := BT.node (boot_o_7 E.P) (n147 E) (n153 E)
noncomputable def n155 (E : Wd) : BT := BT.node (o126 E) BT.nil BT.nil
noncomputable def n156 (E : Wd) : BT := BT.node (boot_o_7 E.P) (n9 E) (n155 E)
noncomputable def n157 (E : Wd) : BT := BT.node (o105 E) BT.nil BT.nil
noncomputable def n158 (E : Wd) : BT := BT.node (o68 E) (n157 E) BT.nil
noncomputable def n159 (E : Wd) : BT := BT.node (boot_o_7 E.P) (n156 E) (n158 E)
noncomputable def n160 (E : Wd) : BT := BT.node (o136 E) BT.nil BT.nil
noncomputable def n161 (E : Wd) : BT := BT.node (o59 E) (n3 E) (n160 E)
noncomputable def n162 (E : Wd) : BT := BT.node (o78 E) (n3 E) BT.nil
noncomputable def n163 (E : Wd) : BT := BT.node (o41 E) (n161 E) (n162 E)
noncomputable def n164 (E : Wd) : BT := BT.node (o22 E) (n159 E) (n163 E)
noncomputable def n165 (E : Wd) : BT := BT.node (boot_o_7 E.P) (n154 E) (n164 E)
noncomputable def n166 (E : Wd) : BT := BT.node (o84 E) BT.nil BT.nil
noncomputable def n167 (E : Wd) : BT := BT.node (o122 E) BT.nil BT.nil
noncomputable def n168 (E : Wd) : BT := BT.node (boot_o_7 E.P) (n166 E) (n167 E)
noncomputable def n169 (E : Wd) : BT := BT.node (boot_o_7 E.P) (n9 E) BT.nil
noncomputable def n170 (E : Wd) : BT := BT.node (o30 E) (n168 E) (n169 E)
noncomputable def n171 (E : Wd) : BT := BT.node (o94 E) BT.nil BT.nil
noncomputable def n172 (E : Wd) : BT := BT.node (o133 E) BT.nil BT.nil
noncomputable def n173 (E : Wd) : BT := BT.node (o57 E) (n171 E) (n172 E)
noncomputable def n174 (E : Wd) : BT := BT.node (o75 E) (n3 E) BT.nil
noncomputable def n175 (E : Wd) : BT := BT.node (boot_o_8 E.P) (n173 E) (n174 E)
noncomputable def n176 (E : Wd) : BT := BT.node (o19 E) (n170 E) (n175 E)
noncomputable def n177 (E : Wd) : BT := BT.node (o89 E) BT.nil BT.nil
noncomputable def n178 (E : Wd) : BT := BT.node (o22 E) BT.nil BT.nil
noncomputable def n179 (E : Wd) : BT := BT.node (o52 E) (n177 E) (n178 E)
noncomputable def n180 (E : Wd) : BT := BT.node (o107 E) BT.nil BT.nil
noncomputable def n181 (E : Wd) : BT := BT.node (boot_o_8 E.P) (n180 E) BT.nil
noncomputable def n182 (E : Wd) : BT := BT.node (boot_o_7 E.P) (n179 E) (n181 E)
noncomputable def n183 (E : Wd) : BT := BT.node (o140 E) BT.nil BT.nil
noncomputable def n184 (E : Wd) : BT := BT.node (o62 E) (n3 E) (n183 E)
noncomputable def n185 (E : Wd) : BT := BT.node (o116 E) BT.nil BT.nil
noncomputable def n186 (E : Wd) : BT := BT.node (boot_o_7 E.P) (n185 E) BT.nil
noncomputable def n187 (E : Wd) : BT := BT.node (o43 E) (n184 E) (n186 E)
noncomputable def n188 (E : Wd) : BT := BT.node (o25 E) (n182 E) (n187 E)
noncomputable def n189 (E : Wd) : BT := BT.node (boot_o_7 E.P) (n176 E) (n188 E)
noncomputable def n190 (E : Wd) : BT := BT.node (o16 E) (n165 E) (n189 E)
noncomputable def n191 (E : Wd) : BT := BT.node (o83 E) BT.nil BT.nil
noncomputable def n192 (E : Wd) : BT := BT.node (o120 E) BT.nil BT.nil
noncomputable def n193 (E : Wd) : BT := BT.node (boot_o_8 E.P) (n191 E) (n192 E)
noncomputable def n194 (E : Wd) : BT := BT.node (o102 E) BT.nil BT.nil
noncomputable def n195 (E : Wd) : BT := BT.node (o65 E) (n194 E) BT.nil
noncomputable def n196 (E : Wd) : BT := BT.node (o28 E) (n193 E) (n195 E)
noncomputable def n197 (E : Wd) : BT := BT.node (o92 E) BT.nil BT.nil
noncomputable def n198 (E : Wd) : BT := BT.node (boot_o_7 E.P) (n197 E) (n3 E)
noncomputable def n199 (E : Wd) : BT := BT.node (o38 E) (n198 E) (n169 E)
noncomputable def n200 (E : Wd) : BT := BT.node (o18 E) (n196 E) (n199 E)
noncomputable def n201 (E : Wd) : BT := BT.node (o128 E) BT.nil BT.nil
noncomputable def n202 (E : Wd) : BT := BT.node (o51 E) (n3 E) (n201 E)
noncomputable def n203 (E : Wd) : BT := BT.node (o70 E) (n3 E) BT.nil
noncomputable def n204 (E : Wd) : BT := BT.node (o33 E) (n202 E) (n203 E)
noncomputable def n205 (E : Wd) : BT := BT.node (o97 E) BT.nil BT.nil
noncomputable def n206 (E : Wd) : BT := BT.node (o138 E) BT.nil BT.nil
noncomputable def n207 (E : Wd) : BT := BT.node (o60 E) (n205 E) (n206 E)
noncomputable def n208 (E : Wd) : BT := BT.node (o115 E) BT.nil BT.nil
noncomputable def n209 (E : Wd) : BT := BT.node (boot_o_8 E.P) (n208 E) BT.nil
noncomputable def n210 (E : Wd) : BT := BT.node (boot_o_7 E.P) (n207 E) (n209 E)
noncomputable def n211 (E : Wd) : BT := BT.node (boot_o_7 E.P) (n204 E) (n210 E)
noncomputable def n212 (E : Wd) : BT := BT.node (boot_o_9 E.P) (n200 E) (n211 E)
noncomputable def n213 (E : Wd) : BT := BT.node (o86 E) BT.nil BT.nil
noncomputable def n214 (E : Wd) : BT := BT.node (o124 E) BT.nil BT.nil
noncomputable def n215 (E : Wd) : BT := BT.node (o49 E) (n213 E) (n214 E)
noncomputable def n216 (E : Wd) : BT := BT.node (o67 E) (n3 E) BT.nil
noncomputable def n217 (E : Wd) : BT := BT.node (boot_o_8 E.P) (n215 E) (n216 E)
noncomputable def n218 (E : Wd) : BT := BT.node (o134 E) BT.nil BT.nil
noncomputable def n219 (E : Wd) : BT := BT.node (boot_o_7 E.P) (n9 E) (n218 E)
noncomputable def n220 (E : Wd) : BT := BT.node (o113 E) BT.nil BT.nil
noncomputable def n221 (E : Wd) : BT := BT.node (o76 E) (n220 E) BT.nil
noncomputable def n222 (E : Wd) : BT := BT.node (boot_o_7 E.P) (n219 E) (n221 E)
noncomputable def n223 (E : Wd) : BT := BT.node (o21 E) (n217 E) (n222 E)
noncomputable def n224 (E : Wd) : BT := BT.node (o54 E) (n3 E) (n3 E)
noncomputable def n225 (E : Wd) : BT := BT.node (o108 E) BT.nil BT.nil
noncomputable def n226 (E : Wd) : BT := BT.node (boot_o_7 E.P) (n225 E) BT.nil
noncomputable def n227 (E : Wd) : BT := BT.node (o35 E) (n224 E) (n226 E)
noncomputable def n228 (E : Wd) : BT := BT.node (o99 E) BT.nil BT.nil
noncomputable def n229 (E : Wd) : BT := BT.node (o142 E) BT.nil BT.nil
noncomputable def n230 (E : Wd) : BT := BT.node (boot_o_8 E.P) (n228 E) (n229 E)
noncomputable def n231 (E : Wd) : BT := BT.node (o118 E) BT.nil BT.nil
noncomputable def n232 (E : Wd) : BT := BT.node (o81 E) (n231 E) BT.nil
noncomputable def n233 (E : Wd) : BT := BT.node (o44 E) (n230 E) (n232 E)
noncomputable def n234 (E : Wd) : BT := BT.node (boot_o_7 E.P) (n227 E) (n233 E)
noncomputable def n235 (E : Wd) : BT := BT.node (o1 E) (n223 E) (n234 E)
noncomputable def n236 (E : Wd) : BT := BT.node (boot_o_5 E.P) (n212 E) (n235 E)
noncomputable def n237 (E : Wd) : BT := BT.node (boot_o_1 E.P) (n190 E) (n236 E)
noncomputable def n238 (E : Wd) : BT := BT.node (o119 E) BT.nil BT.nil
noncomputable def n239 (E : Wd) : BT := BT.node (boot_o_7 E.P) (n9 E) (n238 E)
noncomputable def n240 (E : Wd) : BT := BT.node (o101 E) BT.nil BT.nil
noncomputable def n241 (E : Wd) : BT := BT.node (o64 E) (n240 E) BT.nil
noncomputable def n242 (E : Wd) : BT := BT.node (boot_o_7 E.P) (n239 E) (n241 E)
noncomputable def n243 (E : Wd) : BT := BT.node (o132 E) BT.nil BT.nil
noncomputable def n244 (E : Wd) : BT := BT.node (o55 E) (n3 E) (n243 E)
noncomputable def n245 (E : Wd) : BT := BT.node (o74 E) (n3 E) BT.nil
noncomputable def n246 (E : Wd) : BT := BT.node (o37 E) (n244 E) (n245 E)
noncomputable def n247 (E : Wd) : BT := BT.node (boot_o_8 E.P) (n242 E) (n246 E)
noncomputable def n248 (E : Wd) : BT := BT.node (o87 E) BT.nil BT.nil
noncomputable def n249 (E : Wd) : BT := BT.node (o127 E) BT.nil BT.nil
noncomputable def n250 (E : Wd) : BT := BT.node (boot_o_8 E.P) (n248 E) (n249 E)
noncomputable def n251 (E : Wd) : BT := BT.node (o106 E) BT.nil BT.nil
noncomputable def n252 (E : Wd) : BT := BT.node (o69 E) (n251 E) BT.nil
noncomputable def n253 (E : Wd) : BT := BT.node (o32 E) (n250 E) (n252 E)
noncomputable def n254 (E : Wd) : BT := BT.node (o96 E) BT.nil BT.nil
noncomputable def n255 (E : Wd) : BT := BT.node (o137 E) BT.nil BT.nil
noncomputable def n256 (E : Wd) : BT := BT.node (boot_o_7 E.P) (n254 E) (n255 E)
noncomputable def n257 (E : Wd) : BT := BT.node (o42 E) (n256 E) (n169 E)
noncomputable def n258 (E : Wd) : BT := BT.node (o23 E) (n253 E) (n257 E)
noncomputable def n259 (E : Wd) : BT := BT.node (boot_o_8 E.P) (n247 E) (n258 E)
noncomputable def n260 (E : Wd) : BT := BT.node (o85 E) BT.nil BT.nil
noncomputable def n261 (E : Wd) : BT := BT.node (o123 E) BT.nil BT.nil
noncomputable def n262 (E : Wd) : BT := BT.node (o48 E) (n260 E) (n261 E)
noncomputable def n263 (E : Wd) : BT := BT.node (o103 E) BT.nil BT.nil
noncomputable def n264 (E : Wd) : BT := BT.node (boot_o_8 E.P) (n263 E) BT.nil
noncomputable def n265 (E : Wd) : BT := BT.node (boot_o_7 E.P) (n262 E) (n264 E)
noncomputable def n266 (E : Wd) : BT := BT.node (o58 E) (n3 E) (n3 E)
noncomputable def n267 (E : Wd) : BT := BT.node (o112 E) BT.nil BT.nil
noncomputable def n268 (E : Wd) : BT := BT.node (boot_o_7 E.P) (n267 E) BT.nil
noncomputable def n269 (E : Wd) : BT := BT.node (o39 E) (n266 E) (n268 E)
noncomputable def n270 (E : Wd) : BT := BT.node (o20 E) (n265 E) (n269 E)
noncomputable def n271 (E : Wd) : BT := BT.node (o90 E) BT.nil BT.nil
noncomputable def n272 (E : Wd) : BT := BT.node (o129 E) BT.nil BT.nil
noncomputable def n273 (E : Wd) : BT := BT.node (o53 E) (n271 E) (n272 E)
noncomputable def n274 (E : Wd) : BT := BT.node (o71 E) (n3 E) BT.nil
noncomputable def n275 (E : Wd) : BT := BT.node (boot_o_8 E.P) (n273 E) (n274 E)
noncomputable def n276 (E : Wd) : BT := BT.node (o141 E) BT.nil BT.nil
noncomputable def n277 (E : Wd) : BT := BT.node (boot_o_7 E.P) (n9 E) (n276 E)
noncomputable def n278 (E : Wd) : BT := BT.node (o117 E) BT.nil BT.nil
noncomputable def n279 (E : Wd) : BT := BT.node (o80 E) (n278 E) BT.nil
noncomputable def n280 (E : Wd) : BT := BT.node (boot_o_7 E.P) (n277 E) (n279 E)
noncomputable def n281 (E : Wd) : BT := BT.node (o26 E) (n275 E) (n280 E)
noncomputable def n282 (E : Wd) : BT := BT.node (o17 E) (n270 E) (n281 E)
noncomputable def n283 (E : Wd) : BT := BT.node (boot_o_4 E.P) (n259 E) (n282 E)
noncomputable def n284 (E : Wd) : BT := BT.node (o121 E) BT.nil BT.nil
noncomputable def n285 (E : Wd) : BT := BT.node (o47 E) (n3 E) (n284 E)
noncomputable def n286 (E : Wd) : BT := BT.node (o66 E) (n3 E) BT.nil
noncomputable def n287 (E : Wd) : BT := BT.node (o29 E) (n285 E) (n286 E)
noncomputable def n288 (E : Wd) : BT := BT.node (o93 E) BT.nil BT.nil
noncomputable def n289 (E : Wd) : BT := BT.node (o56 E) (n288 E) (n9 E)
noncomputable def n290 (E : Wd) : BT := BT.node (o111 E) BT.nil BT.nil
noncomputable def n291 (E : Wd) : BT := BT.node (boot_o_8 E.P) (n290 E) BT.nil
noncomputable def n292 (E : Wd) : BT := BT.node (boot_o_7 E.P) (n289 E) (n291 E)
noncomputable def n293 (E : Wd) : BT := BT.node (boot_o_7 E.P) (n287 E) (n292 E)
noncomputable def n294 (E : Wd) : BT := BT.node (o88 E) BT.nil BT.nil
noncomputable def n295 (E : Wd) : BT := BT.node (boot_o_7 E.P) (n294 E) (n3 E)
noncomputable def n296 (E : Wd) : BT := BT.node (o34 E) (n295 E) (n169 E)
noncomputable def n297 (E : Wd) : BT := BT.node (o98 E) BT.nil BT.nil
noncomputable def n298 (E : Wd) : BT := BT.node (o139 E) BT.nil BT.nil
noncomputable def n299 (E : Wd) : BT := BT.node (o61 E) (n297 E) (n298 E)
noncomputable def n300 (E : Wd) : BT := BT.node (o79 E) (n3 E) BT.nil
noncomputable def n301 (E : Wd) : BT := BT.node (boot_o_8 E.P) (n299 E) (n300 E)
noncomputable def n302 (E : Wd) : BT := BT.node (o24 E) (n296 E) (n301 E)
noncomputable def n303 (E : Wd) : BT := BT.node (boot_o_10 E.P) (n293 E) (n302 E)
noncomputable def n304 (E : Wd) : BT := BT.node (o125 E) BT.nil BT.nil
noncomputable def n305 (E : Wd) : BT := BT.node (o50 E) (n3 E) (n304 E)
noncomputable def n306 (E : Wd) : BT := BT.node (o104 E) BT.nil BT.nil
noncomputable def n307 (E : Wd) : BT := BT.node (boot_o_7 E.P) (n306 E) BT.nil
noncomputable def n308 (E : Wd) : BT := BT.node (o31 E) (n305 E) (n307 E)
noncomputable def n309 (E : Wd) : BT := BT.node (o95 E) BT.nil BT.nil
noncomputable def n310 (E : Wd) : BT := BT.node (o135 E) BT.nil BT.nil
noncomputable def n311 (E : Wd) : BT := BT.node (boot_o_8 E.P) (n309 E) (n310 E)
noncomputable def n312 (E : Wd) : BT := BT.node (o114 E) BT.nil BT.nil
noncomputable def n313 (E : Wd) : BT := BT.node (o77 E) (n312 E) BT.nil
noncomputable def n314 (E : Wd) : BT := BT.node (o40 E) (n311 E) (n313 E)
noncomputable def n315 (E : Wd) : BT := BT.node (boot_o_7 E.P) (n308 E) (n314 E)
noncomputable def n316 (E : Wd) : BT := BT.node (o130 E) BT.nil BT.nil
noncomputable def n317 (E : Wd) : BT := BT.node (boot_o_7 E.P) (n9 E) (n316 E)
noncomputable def n318 (E : Wd) : BT := BT.node (o109 E) BT.nil BT.nil
noncomputable def n319 (E : Wd) : BT := BT.node (o72 E) (n318 E) BT.nil
noncomputable def n320 (E : Wd) : BT := BT.node (boot_o_7 E.P) (n317 E) (n319 E)
noncomputable def n321 (E : Wd) : BT := BT.node (o143 E) BT.nil BT.nil
noncomputable def n322 (E : Wd) : BT := BT.node (o63 E) (n3 E) (n321 E)
noncomputable def n323 (E : Wd) : BT := BT.node (o82 E) (n3 E) BT.nil
noncomputable def n324 (E : Wd) : BT := BT.node (o45 E) (n322 E) (n323 E)
noncomputable def n325 (E : Wd) : BT := BT.node (boot_o_8 E.P) (n320 E) (n324 E)
noncomputable def n326 (E : Wd) : BT := BT.node (o2 E) (n315 E) (n325 E)
noncomputable def n327 (E : Wd) : BT := BT.node (boot_o_6 E.P) (n303 E) (n326 E)
noncomputable def n328 (E : Wd) : BT := BT.node (boot_o_2 E.P) (n283 E) (n327 E)
noncomputable def n329 (E : Wd) : BT := BT.node (boot_o_0 E.P) (n237 E) (n328 E)
noncomputable def S6_t (E : Wd) : BT := (n329 E)
noncomputable def S6 (E : Wd) (os : OsState) : SharedT := SharedT.mk (S6_t E) 223 lifeH (Array.mk []) (Drawn.mk 0 0 0 0) 461 os
theorem T0 (w : World) (os : OsState) : segRunT treeTable pw w 11 (some (.ref 6)) 1 1313 (S0 ⟨w.params, nO, nO, nO⟩ os) ⟨(execs [topS 0, topS 1, topS 2, topS 3, topS 4, topS 5] envT).wrap doneF deadEnd id id, cT, ⟨0, 0, 0, 0⟩, [topFrame q0]⟩ = some (.next, S6 ⟨w.params, nO, nO, nO⟩ os, cT, ⟨166, 0, 166, 8⟩) := by
  exact byG (by kernel_rfl)
noncomputable def envC : Env := { scope := (fnC (topS 6)), locals := 225, globals := 3, cells := [], qual := (Str.ofString "DanishStemmer."), func := none, code := (Value.ref 228), frame := (Option.some 229), builtins := 0 }
noncomputable abbrev bC : List Stmt := bodyS (topS 6)
noncomputable abbrev cC : Code := .body bC envC
noncomputable def o330 (E : Wd) : Obj := (Obj.mk Value.none Option.none (Data.fields (List.toArray [(Value.int (1 : Int) 0), (Value.int (0 : Int) 0), (Value.ref 20), (Value.int (5 : Int) 0), (Value.int (0 : Int) 0), (Value.ref 27), (Value.int (160 : Int) 0), (Value.int (0 : Int) 0), (Value.ref 207), (Value.int (167 : Int) 0), (Value.int (0 : Int) 0), (Value.ref 228)])) (List.toArray []))
noncomputable def o331 (E : Wd) : Obj := (Obj.mk (Value.type "tuple") Option.none (Data.seq (List.toArray [(Value.ref 197)]) 0) (List.toArray []))
noncomputable def o332 (E : Wd) : Obj := (Obj.mk (Value.type "dict") Option.none (Data.dict (List.toArray [(DictEntry.mk (PyData.keyHash E.P (Str.ofString "__module__")) (Value.str (Str.ofString "__module__") 468) (Value.str (Str.ofString "snowballstemmer.danish_stemmer") 459)), (DictEntry.mk (PyData.keyHash E.P (Str.ofString "__qualname__")) (Value.str (Str.ofString "__qualname__") 470) (Value.str (Str.ofString "DanishStemmer") 469)), (DictEntry.mk (PyData.keyHash E.P (Str.ofString "__firstlineno__")) (Value.str (Str.ofString "__firstlineno__") 472) (Value.int (167 : Int) 471))]) 3) (List.toArray []))
noncomputable def o333 (E : Wd) : Obj := (Obj.mk (Value.type "code") Option.none (Data.fields (List.toArray [(Value.str (Str.ofString "DanishStemmer") 463), (Value.str (Str.ofString "DanishStemmer") 464), (Value.str (Str.ofString "/claim/cut.py") 465), (Value.int (167 : Int) 0), (Value.int (0 : Int) 0), (Value.int (0 : Int) 0), (Value.int (0 : Int) 0), (Value.int (0 : Int) 0), (Value.ref 226), (Value.bool Bool.false), (Value.int (181 : Int) 0), (Value.ref 227), Value.none, Value.none, Value.none, Value.none, (Value.int (466 : Int) 0), (Value.int (167 : Int) 0), (Value.str (Str.ofString "/claim/cut.py") 467)])) (List.toArray []))
noncomputable def o334 (E : Wd) : Obj := (Obj.mk (Value.type "frame") Option.none Data.plain (List.toArray [(Option.some (Value.ref 228)), (Option.some (Value.ref 3)), (Option.some (Value.ref 225)), Option.none, (Option.some (Value.str (Str.ofString "snowballstemmer.danish_stemmer") 459)), Option.none, (Option.some (Value.ref 0))]))
noncomputable def n335 (E : Wd) : BT := BT.node (o331 E) BT.nil BT.nil
noncomputable def n336 (E : Wd) : BT := BT.node (boot_o_7 E.P) (n145 E) (n335 E)
noncomputable def n337 (E : Wd) : BT := BT.node (o27 E) (n144 E) (n336 E)
noncomputable def n338 (E : Wd) : BT := BT.node (boot_o_7 E.P) (n337 E) (n153 E)
noncomputable def n339 (E : Wd) : BT := BT.node (boot_o_7 E.P) (n338 E) (n164 E)
noncomputable def n340 (E : Wd) : BT := BT.node (boot_o_7 E.P) (n9 E) (n9 E)
noncomputable def n341 (E : Wd) : BT := BT.node (o30 E) (n168 E) (n340 E)
noncomputable def n342 (E : Wd) : BT := BT.node (o19 E) (n341 E) (n175 E)
noncomputable def n343 (E : Wd) : BT := BT.node (boot_o_7 E.P) (n342 E) (n188 E)
noncomputable def n344 (E : Wd) : BT := BT.node (o16 E) (n339 E) (n343 E)
noncomputable def n345 (E : Wd) : BT := BT.node (o332 E) BT.nil BT.nil
noncomputable def n346 (E : Wd) : BT := BT.node (o65 E) (n194 E) (n345 E)
noncomputable def n347 (E : Wd) : BT := BT.node (o28 E) (n193 E) (n346 E)
noncomputable def n348 (E : Wd) : BT := BT.node (o18 E) (n347 E) (n199 E)
noncomputable def n349 (E : Wd) : BT := BT.node (boot_o_9 E.P) (n348 E) (n211 E)
noncomputable def n350 (E : Wd) : BT := BT.node (o334 E) BT.nil BT.nil
noncomputable def n351 (E : Wd) : BT := BT.node (o67 E) (n3 E) (n350 E)
noncomputable def n352 (E : Wd) : BT := BT.node (boot_o_8 E.P) (n215 E) (n351 E)
noncomputable def n353 (E : Wd) : BT := BT.node (o21 E) (n352 E) (n222 E)
noncomputable def n354 (E : Wd) : BT := BT.node (o1 E) (n353 E) (n234 E)
noncomputable def n355 (E : Wd) : BT := BT.node (boot_o_5 E.P) (n349 E) (n354 E)
noncomputable def n356 (E : Wd) : BT := BT.node (boot_o_1 E.P) (n344 E) (n355 E)
noncomputable def n357 (E : Wd) : BT := BT.node (o64 E) (n240 E) (n178 E)
noncomputable def n358 (E : Wd) : BT := BT.node (boot_o_7 E.P) (n239 E) (n357 E)
noncomputable def n359 (E : Wd) : BT := BT.node (boot_o_8 E.P) (n358 E) (n246 E)
noncomputable def n360 (E : Wd) : BT := BT.node (boot_o_8 E.P) (n359 E) (n258 E)
noncomputable def n361 (E : Wd) : BT := BT.node (o333 E) BT.nil BT.nil
noncomputable def n362 (E : Wd) : BT := BT.node (boot_o_8 E.P) (n263 E) (n361 E)
noncomputable def n363 (E : Wd) : BT := BT.node (boot_o_7 E.P) (n262 E) (n362 E)
noncomputable def n364 (E : Wd) : BT := BT.node (o20 E) (n363 E) (n269 E)
noncomputable def n365 (E : Wd) : BT := BT.node (o330 E) (n364 E) (n281 E)
noncomputable def n366 (E : Wd) : BT := BT.node (boot_o_4 E.P) (n360 E) (n365 E)
noncomputable def n367 (E : Wd) : BT := BT.node (o66 E) (n3 E) (n3 E)
noncomputable def n368 (E : Wd) : BT := BT.node (o29 E) (n285 E) (n367 E)
noncomputable def n369 (E : Wd) : BT := BT.node (boot_o_7 E.P) (n368 E) (n292 E)
noncomputable def n370 (E : Wd) : BT := BT.node (boot_o_10 E.P) (n369 E) (n302 E)
noncomputable def n371 (E : Wd) : BT := BT.node (boot_o_6 E.P) (n370 E) (n326 E)
noncomputable def n372 (E : Wd) : BT := BT.node (boot_o_2 E.P) (n366 E) (n371 E)
noncomputable def n373 (E : Wd) : BT := BT.node (boot_o_0 E.P) (n356 E) (n372 E)
noncomputable def A0_t (E : Wd) : BT := (n373 E)
noncomputable def A0 (E : Wd) (os : OsState) : SharedT := SharedT.mk (A0_t E) 230 lifeH (Array.mk []) (Drawn.mk 0 0 0 0) 473 os
noncomputable def kA (w : World) (os : OsState) : Result → Sem Fin := match PySem.W.Fast.GG_lq pw w 1 64 (S6 ⟨w.params, nO, nO, nO⟩ os) (pieceOf (topS 6) envT cT ⟨166, 0, 166, 8⟩ [topFrame q0]) with
  | some (_, ⟨_, _, _, .ret k _ _ _ _ _ _ :: _⟩) => k
  | _ => fun _ => .pure (.done .next)
noncomputable abbrev frA (w : World) (os : OsState) : Frame := .ret (kA w os) none false [(Value.ref 197), (Value.ref 223), (Value.ref 223), (Value.ref 225), (Value.ref 229)] cT ⟨167, 0, 336, 115⟩ []
noncomputable abbrev B2 (w : World) (os : OsState) : List Frame := [frA w os, topFrame q0]
theorem LA (w : World) (os : OsState) : segGoT treeTable pw w 11 (some (.ref 6)) 1 64 (S6 ⟨w.params, nO, nO, nO⟩ os) (pieceOf (topS 6) envT cT ⟨166, 0, 166, 8⟩ [topFrame q0]) = some (A0 ⟨w.params, nO, nO, nO⟩ os, ⟨denote treeTable cC, cC, ⟨167, 0, 336, 115⟩, B2 w os⟩) := by
  rw [byDD]; exact byGG (by kernel_rfl)
theorem LB (w : World) (os : OsState) : segRunT treeTable pw w 11 (some (.ref 6)) 2 1 (A0 ⟨w.params, nO, nO, nO⟩ os) (blockOf bC envC cC ⟨167, 0, 336, 115⟩ (B2 w os)) = some (.next, A0 ⟨w.params, nO, nO, nO⟩ os, cC, ⟨167, 0, 336, 115⟩) := by
  exact byG (by kernel_rfl)
-- class statement 0: steps 176 176, rows [special-get-raises, set-order], toks 473 498, pos ⟨167, 0, 336, 115⟩ to ⟨168, 4, 168, 16⟩
noncomputable def o374 (E : Wd) : Obj := (Obj.mk (Value.type "dict") Option.none (Data.dict (List.toArray [(DictEntry.mk (PyData.keyHash E.P (Str.ofString "__module__")) (Value.str (Str.ofString "__module__") 468) (Value.str (Str.ofString "snowballstemmer.danish_stemmer") 459)), (DictEntry.mk (PyData.keyHash E.P (Str.ofString "__qualname__")) (Value.str (Str.ofString "__qualname__") 470) (Value.str (Str.ofString "DanishStemmer") 469)), (DictEntry.mk (PyData.keyHash E.P (Str.ofString "__firstlineno__")) (Value.str (Str.ofString "__firstlineno__") 472) (Value.int (167 : Int) 471)), (DictEntry.mk (PyData.keyHash E.P (Str.ofString "g_undouble_c")) (Value.str (Str.ofString "g_undouble_c") 497) (Value.ref 230))]) 4) (List.toArray []))
noncomputable def n375 (E : Wd) : BT := BT.node (o374 E) BT.nil BT.nil
noncomputable def n376 (E : Wd) : BT := BT.node (o65 E) (n194 E) (n375 E)
noncomputable def n377 (E : Wd) : BT := BT.node (o28 E) (n193 E) (n376 E)
noncomputable def n378 (E : Wd) : BT := BT.node (o18 E) (n377 E) (n199 E)
noncomputable def n379 (E : Wd) : BT := BT.node (boot_o_9 E.P) (n378 E) (n211 E)
noncomputable def n380 (E : Wd) : BT := BT.node (boot_o_5 E.P) (n379 E) (n354 E)
noncomputable def n381 (E : Wd) : BT := BT.node (boot_o_1 E.P) (n344 E) (n380 E)
noncomputable def n382 (E : Wd) : BT := BT.node (setO E.X) BT.nil BT.nil
noncomputable def n383 (E : Wd) : BT := BT.node (boot_o_7 E.P) (n306 E) (n382 E)
noncomputable def n384 (E : Wd) : BT := BT.node (o31 E) (n305 E) (n383 E)
noncomputable def n385 (E : Wd) : BT := BT.node (boot_o_7 E.P) (n384 E) (n314 E)
noncomputable def n386 (E : Wd) : BT := BT.node (o2 E) (n385 E) (n325 E)
noncomputable def n387 (E : Wd) : BT := BT.node (boot_o_6 E.P) (n370 E) (n386 E)
noncomputable def n388 (E : Wd) : BT := BT.node (boot_o_2 E.P) (n366 E) (n387 E)
noncomputable def n389 (E : Wd) : BT := BT.node (boot_o_0 E.P) (n381 E) (n388 E)
noncomputable def A1_t (E : Wd) : BT := (n389 E)
noncomputable def A1 (E : Wd) (os : OsState) : SharedT := SharedT.mk (A1_t E) 231 lifeH (Array.mk []) (Drawn.mk 0 0 0 0) 498 os
noncomputable def n390 (E : Wd) : BT := BT.node (boot_o_0 E.P) (n356 E) (n388 E)
noncomputable def M0_t (E : Wd) : BT := (n390 E)
noncomputable def M0 (E : Wd) (os : OsState) : SharedT := SharedT.mk (M0_t E) 231 lifeH (Array.mk []) (Drawn.mk 0 0 0 0) 473 os
-- class statement 1: steps 137 137, rows [special-get-raises, set-order], toks 498 517, pos ⟨168, 4, 168, 16⟩ to ⟨169, 4, 169, 7⟩
noncomputable def o391 (E : Wd) : Obj := (Obj.mk (Value.type "dict") Option.none (Data.dict (List.toArray [(DictEntry.mk (PyData.keyHash E.P (Str.ofString "__module__")) (Value.str (Str.ofString "__module__") 468) (Value.str (Str.ofString "snowballstemmer.danish_stemmer") 459)), (DictEntry.mk (PyData.keyHash E.P (Str.ofString "__qualname__")) (Value.str (Str.ofString "__qualname__") 470) (Value.str (Str.ofString "DanishStemmer") 469)), (DictEntry.mk (PyData.keyHash E.P (Str.ofString "__firstlineno__")) (Value.str (Str.ofString "__firstlineno__") 472) (Value.int (167 : Int) 471)), (DictEntry.mk (PyData.keyHash E.P (Str.ofString "g_undouble_c")) (Value.str (Str.ofString "g_undouble_c") 497) (Value.ref 230)), (DictEntry.mk (PyData.keyHash E.P (Str.ofString "g_v")) (Value.str (Str.ofString "g_v") 516) (Value.ref 231))]) 5) (List.toArray []))
noncomputable def n392 (E : Wd) : BT := BT.node (setO E.Y) BT.nil BT.nil
noncomputable def n393 (E : Wd) : BT := BT.node (o68 E) (n157 E) (n392 E)
noncomputable def n394 (E : Wd) : BT := BT.node (boot_o_7 E.P) (n156 E) (n393 E)
noncomputable def n395 (E : Wd) : BT := BT.node (o22 E) (n394 E) (n163 E)
noncomputable def n396 (E : Wd) : BT := BT.node (boot_o_7 E.P) (n338 E) (n395 E)
noncomputable def n397 (E : Wd) : BT := BT.node (o16 E) (n396 E) (n343 E)
noncomputable def n398 (E : Wd) : BT := BT.node (o391 E) BT.nil BT.nil
noncomputable def n399 (E : Wd) : BT := BT.node (o65 E) (n194 E) (n398 E)
noncomputable def n400 (E : Wd) : BT := BT.node (o28 E) (n193 E) (n399 E)
noncomputable def n401 (E : Wd) : BT := BT.node (o18 E) (n400 E) (n199 E)
noncomputable def n402 (E : Wd) : BT := BT.node (boot_o_9 E.P) (n401 E) (n211 E)
noncomputable def n403 (E : Wd) : BT := BT.node (boot_o_5 E.P) (n402 E) (n354 E)
noncomputable def n404 (E : Wd) : BT := BT.node (boot_o_1 E.P) (n397 E) (n403 E)
noncomputable def n405 (E : Wd) : BT := BT.node (boot_o_0 E.P) (n404 E) (n388 E)
noncomputable def A2_t (E : Wd) : BT := (n405 E)
noncomputable def A2 (E : Wd) (os : OsState) : SharedT := SharedT.mk (A2_t E) 232 lifeH (Array.mk []) (Drawn.mk 0 0 0 0) 517 os
noncomputable def n406 (E : Wd) : BT := BT.node (boot_o_1 E.P) (n397 E) (n380 E)
noncomputable def n407 (E : Wd) : BT := BT.node (boot_o_0 E.P) (n406 E) (n388 E)
noncomputable def M1_t (E : Wd) : BT := (n407 E)
noncomputable def M1 (E : Wd) (os : OsState) : SharedT := SharedT.mk (M1_t E) 232 lifeH (Array.mk []) (Drawn.mk 0 0 0 0) 498 os
-- class statement 2: steps 295 295, rows [special-get-raises, set-order], toks 517 560, pos ⟨169, 4, 169, 7⟩ to ⟨170, 4, 170, 14⟩
noncomputable def o408 (E : Wd) : Obj := (Obj.mk (Value.type "dict") Option.none (Data.dict (List.toArray [(DictEntry.mk (PyData.keyHash E.P (Str.ofString "__module__")) (Value.str (Str.ofString "__module__") 468) (Value.str (Str.ofString "snowballstemmer.danish_stemmer") 459)), (DictEntry.mk (PyData.keyHash E.P (Str.ofString "__qualname__")) (Value.str (Str.ofString "__qualname__") 470) (Value.str (Str.ofString "DanishStemmer") 469)), (DictEntry.mk (PyData.keyHash E.P (Str.ofString "__firstlineno__")) (Value.str (Str.ofString "__firstlineno__") 472) (Value.int (167 : Int) 471)), (DictEntry.mk (PyData.keyHash E.P (Str.ofString "g_undouble_c")) (Value.str (Str.ofString "g_undouble_c") 497) (Value.ref 230)), (DictEntry.mk (PyData.keyHash E.P (Str.ofString "g_v")) (Value.str (Str.ofString "g_v") 516) (Value.ref 231)), (DictEntry.mk (PyData.keyHash E.P (Str.ofString "g_s_ending")) (Value.str (Str.ofString "g_s_ending") 559) (Value.ref 232))]) 6) (List.toArray []))
noncomputable def n409 (E : Wd) : BT := BT.node (o408 E) BT.nil BT.nil
noncomputable def n410 (E : Wd) : BT := BT.node (o65 E) (n194 E) (n409 E)
noncomputable def n411 (E : Wd) : BT := BT.node (o28 E) (n193 E) (n410 E)
noncomputable def n412 (E : Wd) : BT := BT.node (o18 E) (n411 E) (n199 E)
noncomputable def n413 (E : Wd) : BT := BT.node (boot_o_9 E.P) (n412 E) (n211 E)
noncomputable def n414 (E : Wd) : BT := BT.node (boot_o_5 E.P) (n413 E) (n354 E)
noncomputable def n415 (E : Wd) : BT := BT.node (boot_o_1 E.P) (n397 E) (n414 E)
noncomputable def n416 (E : Wd) : BT := BT.node (setO E.Z) BT.nil BT.nil
noncomputable def n417 (E : Wd) : BT := BT.node (o69 E) (n251 E) (n416 E)
noncomputable def n418 (E : Wd) : BT := BT.node (o32 E) (n250 E) (n417 E)
noncomputable def n419 (E : Wd) : BT := BT.node (o23 E) (n418 E) (n257 E)
noncomputable def n420 (E : Wd) : BT := BT.node (boot_o_8 E.P) (n359 E) (n419 E)
noncomputable def n421 (E : Wd) : BT := BT.node (boot_o_4 E.P) (n420 E) (n365 E)
noncomputable def n422 (E : Wd) : BT := BT.node (boot_o_2 E.P) (n421 E) (n387 E)
noncomputable def n423 (E : Wd) : BT := BT.node (boot_o_0 E.P) (n415 E) (n422 E)
noncomputable def A3_t (E : Wd) : BT := (n423 E)
noncomputable def A3 (E : Wd) (os : OsState) : SharedT := SharedT.mk (A3_t E) 233 lifeH (Array.mk []) (Drawn.mk 0 0 0 0) 560 os
noncomputable def n424 (E : Wd) : BT := BT.node (boot_o_0 E.P) (n404 E) (n422 E)
noncomputable def M2_t (E : Wd) : BT := (n424 E)
noncomputable def M2 (E : Wd) (os : OsState) : SharedT := SharedT.mk (M2_t E) 233 lifeH (Array.mk []) (Drawn.mk 0 0 0 0) 517 os
-- class statement 3: steps 10 10, rows [], toks 560 562, pos ⟨170, 4, 170, 14⟩ to ⟨171, 4, 171, 8⟩
-- class statement 4: steps 33 33, rows [], toks 562 572, pos ⟨171, 4, 171, 8⟩ to ⟨173, 4, 217, 19⟩
-- class statement 5: steps 32 32, rows [], toks 572 581, pos ⟨173, 4, 217, 19⟩ to ⟨219, 4, 237, 19⟩
-- class statement 6: steps 32 32, rows [], toks 581 590, pos ⟨219, 4, 237, 19⟩ to ⟨239, 4, 257, 19⟩
-- class statement 7: steps 34 34, rows [], toks 590 601, pos ⟨239, 4, 257, 19⟩ to ⟨259, 4, 290, 19⟩
-- class statement 8: steps 32 32, rows [], toks 601 610, pos ⟨259, 4, 290, 19⟩ to ⟨292, 4, 307, 19⟩
-- class statement 9: steps 34 34, rows [], toks 610 621, pos ⟨292, 4, 307, 19⟩ to ⟨309, 4, 333, 19⟩
-- class statement 10: steps 5326 5326, rows [], toks 621 1045, pos ⟨309, 4, 333, 19⟩ to ⟨334, 4, 334, 7⟩
-- class statement 11: steps 711 711, rows [], toks 1045 1106, pos ⟨334, 4, 334, 7⟩ to ⟨335, 4, 335, 7⟩
-- class statement 12: steps 851 851, rows [], toks 1106 1175, pos ⟨335, 4, 335, 7⟩ to ⟨336, 4, 336, 7⟩
noncomputable def o425 (E : Wd) : Obj := (Obj.mk (Value.type "dict") Option.none (Data.dict (List.toArray [(DictEntry.mk (PyData.keyHash E.P (Str.ofString "__name__")) (Value.str (Str.ofString "__name__") 165) (Value.str (Str.ofString "snowballstemmer.danish_stemmer") 459)), (DictEntry.mk (PyData.keyHash E.P (Str.ofString "__doc__")) (Value.str (Str.ofString "__doc__") 166) Value.none), (DictEntry.mk (PyData.keyHash E.P (Str.ofString "__package__")) (Value.str (Str.ofString "__package__") 167) Value.none), (DictEntry.mk (PyData.keyHash E.P (Str.ofString "__loader__")) (Value.str (Str.ofString "__loader__") 168) (Value.builtin "__main__.__loader__#opaque")), (DictEntry.mk (PyData.keyHash E.P (Str.ofString "__spec__")) (Value.str (Str.ofString "__spec__") 169) Value.none), (DictEntry.mk (PyData.keyHash E.P (Str.ofString "__annotations__")) (Value.str (Str.ofString "__annotations__") 170) (Value.ref 6)), (DictEntry.mk (PyData.keyHash E.P (Str.ofString "__builtins__")) (Value.str (Str.ofString "__builtins__") 171) (Value.ref 4)), (DictEntry.mk (PyData.keyHash E.P (Str.ofString "__file__")) (Value.str (Str.ofString "__file__") 173) (Value.str (Str.ofString "/claim/cut.py") 172)), (DictEntry.mk (PyData.keyHash E.P (Str.ofString "__cached__")) (Value.str (Str.ofString "__cached__") 174) Value.none), (DictEntry.mk (PyData.keyHash E.P (Str.ofString "_wall")) (Value.str (Str.ofString "_wall") 193) (Value.ref 21)), (DictEntry.mk (PyData.keyHash E.P (Str.ofString "BaseStemmer")) (Value.str (Str.ofString "BaseStemmer") 423) (Value.ref 197)), (DictEntry.mk (PyData.keyHash E.P (Str.ofString "Among")) (Value.str (Str.ofString "Among") 458) (Value.ref 218)), (DictEntry.mk (PyData.keyHash E.P (Str.ofString "DanishStemmer")) (Value.str (Str.ofString "DanishStemmer") 1183) (Value.ref 403))]) 13) (List.toArray []))
noncomputable def o426 (E : Wd) : Obj := (Obj.mk (Value.type "type") Option.none (Data.cls (ClassData.mk (Str.ofString "BaseStemmer") [(Value.type "object")] [(Value.ref 197), (Value.type "object")] 196 (Str.ofString "BaseStemmer") Bool.true [] [(Value.ref 403)] Bool.false Option.none Bool.false)) (List.toArray [Option.none, Option.none, (Option.some (Value.str (Str.ofString "BaseStemmer") 196)), (Option.some (Value.str (Str.ofString "BaseStemmer") 204)), (Option.some (Value.builtin "object.__new__")), (Option.some (Value.bool Bool.true))]))
noncomputable def o427 (E : Wd) : Obj := (Obj.mk (Value.type "dict") Option.none (Data.dict (List.toArray [(DictEntry.mk (PyData.keyHash E.P (Str.ofString "__module__")) (Value.str (Str.ofString "__module__") 468) (Value.str (Str.ofString "snowballstemmer.danish_stemmer") 459)), (DictEntry.mk (PyData.keyHash E.P (Str.ofString "__qualname__")) (Value.str (Str.ofString "__qualname__") 470) (Value.str (Str.ofString "DanishStemmer") 469)), (DictEntry.mk (PyData.keyHash E.P (Str.ofString "__firstlineno__")) (Value.str (Str.ofString "__firstlineno__") 472) (Value.int (167 : Int) 471)), (DictEntry.mk (PyData.keyHash E.P (Str.ofString "g_undouble_c")) (Value.str (Str.ofString "g_undouble_c") 497) (Value.ref 230)), (DictEntry.mk (PyData.keyHash E.P (Str.ofString "g_v")) (Value.str (Str.ofString "g_v") 516) (Value.ref 231)), (DictEntry.mk (PyData.keyHash E.P (Str.ofString "g_s_ending")) (Value.str (Str.ofString "g_s_ending") 559) (Value.ref 232)), (DictEntry.mk (PyData.keyHash E.P (Str.ofString "I_p1")) (Value.str (Str.ofString "I_p1") 561) (Value.int (0 : Int) 560)), (DictEntry.mk (PyData.keyHash E.P (Str.ofString "r_mark_regions")) (Value.str (Str.ofString "r_mark_regions") 571) (Value.ref 239)), (DictEntry.mk (PyData.keyHash E.P (Str.ofString "r_main_suffix")) (Value.str (Str.ofString "r_main_suffix") 580) (Value.ref 246)), (DictEntry.mk (PyData.keyHash E.P (Str.ofString "r_consonant_pair")) (Value.str (Str.ofString "r_consonant_pair") 589) (Value.ref 253)), (DictEntry.mk (PyData.keyHash E.P (Str.ofString "r_other_suffix")) (Value.str (Str.ofString "r_other_suffix") 600) (Value.ref 260)), (DictEntry.mk (PyData.keyHash E.P (Str.ofString "r_undouble")) (Value.str (Str.ofString "r_undouble") 609) (Value.ref 267)), (DictEntry.mk (PyData.keyHash E.P (Str.ofString "_stem")) (Value.str (Str.ofString "_stem") 620) (Value.ref 274)), (DictEntry.mk (PyData.keyHash E.P (Str.ofString "a_0")) (Value.str (Str.ofString "a_0") 1044) (Value.ref 371)), (DictEntry.mk (PyData.keyHash E.P (Str.ofString "a_1")) (Value.str (Str.ofString "a_1") 1105) (Value.ref 384)), (DictEntry.mk (PyData.keyHash E.P (Str.ofString "a_2")) (Value.str (Str.ofString "a_2") 1174) (Value.ref 400)), (DictEntry.mk (PyData.keyHash E.P (Str.ofString "__static_attributes__")) (Value.str (Str.ofString "__static_attributes__") 1180) (Value.ref 401))]) 17) (List.toArray []))
noncomputable def o428 (E : Wd) : Obj := (Obj.mk Value.none Option.none (Data.fields (List.toArray [(Value.int (173 : Int) 0), (Value.int (4 : Int) 0), (Value.ref 238), (Value.int (219 : Int) 0), (Value.int (4 : Int) 0), (Value.ref 245), (Value.int (239 : Int) 0), (Value.int (4 : Int) 0), (Value.ref 252), (Value.int (259 : Int) 0), (Value.int (4 : Int) 0), (Value.ref 259), (Value.int (292 : Int) 0), (Value.int (4 : Int) 0), (Value.ref 266), (Value.int (309 : Int) 0), (Value.int (4 : Int) 0), (Value.ref 273)])) (List.toArray []))
noncomputable def o429 (E : Wd) : Obj := (Obj.mk (Value.type "tuple") Option.none (Data.seq (List.toArray [(Value.str (Str.ofString "self") 565), (Value.str (Str.ofString "v_1") 566), (Value.str (Str.ofString "v_2") 567), (Value.str (Str.ofString "v_3") 568)]) 0) (List.toArray []))
noncomputable def o430 (E : Wd) : Obj := (Obj.mk Value.none Option.none (Data.func (FuncData.mk (Str.ofString "r_mark_regions") (Str.ofString "DanishStemmer.r_mark_regions") (fnA (clsS 6 4)) (FuncBody.stmts (fnB (clsS 6 4))) (fnC (clsS 6 4)) 0 [] Value.none Value.none Value.none Value.none Option.none Value.none Value.none 0)) (List.toArray []))
noncomputable def o431 (E : Wd) : Obj := (Obj.mk (Value.type "code") Option.none (Data.fields (List.toArray [(Value.str (Str.ofString "r_mark_regions") 562), (Value.str (Str.ofString "DanishStemmer.r_mark_regions") 563), (Value.str (Str.ofString "/claim/cut.py") 564), (Value.int (173 : Int) 0), (Value.int (1 : Int) 0), (Value.int (0 : Int) 0), (Value.int (0 : Int) 0), (Value.int (3 : Int) 0), (Value.ref 233), (Value.bool Bool.true), (Value.int (181 : Int) 0), (Value.ref 234), Value.none, (Value.ref 235), (Value.ref 236), (Value.ref 237), (Value.int (569 : Int) 0), (Value.int (173 : Int) 0), (Value.str (Str.ofString "/claim/cut.py") 570)])) (List.toArray []))
noncomputable def o432 (E : Wd) : Obj := (Obj.mk (Value.type "function") Option.none (Data.func (FuncData.mk (Str.ofString "r_mark_regions") (Str.ofString "DanishStemmer.r_mark_regions") (fnA (clsS 6 4)) (FuncBody.stmts (fnB (clsS 6 4))) (fnC (clsS 6 4)) 3 [] Value.none Value.none Value.none (Value.str (Str.ofString "snowballstemmer.danish_stemmer") 459) Option.none (Value.ref 238) Value.none 0)) (List.toArray []))
noncomputable def o433 (E : Wd) : Obj := (Obj.mk (Value.type "tuple") Option.none (Data.seq (List.toArray [(Value.str (Str.ofString "self") 575), (Value.str (Str.ofString "v_2") 576), (Value.str (Str.ofString "among_var") 577)]) 0) (List.toArray []))
noncomputable def o434 (E : Wd) : Obj := (Obj.mk Value.none Option.none (Data.func (FuncData.mk (Str.ofString "r_main_suffix") (Str.ofString "DanishStemmer.r_main_suffix") (fnA (clsS 6 5)) (FuncBody.stmts (fnB (clsS 6 5))) (fnC (clsS 6 5)) 0 [] Value.none Value.none Value.none Value.none Option.none Value.none Value.none 0)) (List.toArray []))
noncomputable def o435 (E : Wd) : Obj := (Obj.mk (Value.type "code") Option.none (Data.fields (List.toArray [(Value.str (Str.ofString "r_main_suffix") 572), (Value.str (Str.ofString "DanishStemmer.r_main_suffix") 573), (Value.str (Str.ofString "/claim/cut.py") 574), (Value.int (219 : Int) 0), (Value.int (1 : Int) 0), (Value.int (0 : Int) 0), (Value.int (0 : Int) 0), (Value.int (3 : Int) 0), (Value.ref 240), (Value.bool Bool.true), (Value.int (181 : Int) 0), (Value.ref 241), Value.none, (Value.ref 242), (Value.ref 243), (Value.ref 244), (Value.int (578 : Int) 0), (Value.int (219 : Int) 0), (Value.str (Str.ofString "/claim/cut.py") 579)])) (List.toArray []))
noncomputable def o436 (E : Wd) : Obj := (Obj.mk (Value.type "function") Option.none (Data.func (FuncData.mk (Str.ofString "r_main_suffix") (Str.ofString "DanishStemmer.r_main_suffix") (fnA (clsS 6 5)) (FuncBody.stmts (fnB (clsS 6 5))) (fnC (clsS 6 5)) 3 [] Value.none Value.none Value.none (Value.str (Str.ofString "snowballstemmer.danish_stemmer") 459) Option.none (Value.ref 245) Value.none 0)) (List.toArray []))
noncomputable def o437 (E : Wd) : Obj := (Obj.mk (Value.type "tuple") Option.none (Data.seq (List.toArray [(Value.str (Str.ofString "self") 584), (Value.str (Str.ofString "v_1") 585), (Value.str (Str.ofString "v_3") 586)]) 0) (List.toArray []))
noncomputable def o438 (E : Wd) : Obj := (Obj.mk Value.none Option.none (Data.func (FuncData.mk (Str.ofString "r_consonant_pair") (Str.ofString "DanishStemmer.r_consonant_pair") (fnA (clsS 6 6)) (FuncBody.stmts (fnB (clsS 6 6))) (fnC (clsS 6 6)) 0 [] Value.none Value.none Value.none Value.none Option.none Value.none Value.none 0)) (List.toArray []))
noncomputable def o439 (E : Wd) : Obj := (Obj.mk (Value.type "code") Option.none (Data.fields (List.toArray [(Value.str (Str.ofString "r_consonant_pair") 581), (Value.str (Str.ofString "DanishStemmer.r_consonant_pair") 582), (Value.str (Str.ofString "/claim/cut.py") 583), (Value.int (239 : Int) 0), (Value.int (1 : Int) 0), (Value.int (0 : Int) 0), (Value.int (0 : Int) 0), (Value.int (3 : Int) 0), (Value.ref 247), (Value.bool Bool.true), (Value.int (181 : Int) 0), (Value.ref 248), Value.none, (Value.ref 249), (Value.ref 250), (Value.ref 251), (Value.int (587 : Int) 0), (Value.int (239 : Int) 0), (Value.str (Str.ofString "/claim/cut.py") 588)])) (List.toArray []))
noncomputable def o440 (E : Wd) : Obj := (Obj.mk (Value.type "function") Option.none (Data.func (FuncData.mk (Str.ofString "r_consonant_pair") (Str.ofString "DanishStemmer.r_consonant_pair") (fnA (clsS 6 6)) (FuncBody.stmts (fnB (clsS 6 6))) (fnC (clsS 6 6)) 3 [] Value.none Value.none Value.none (Value.str (Str.ofString "snowballstemmer.danish_stemmer") 459) Option.none (Value.ref 252) Value.none 0)) (List.toArray []))
noncomputable def o441 (E : Wd) : Obj := (Obj.mk (Value.type "tuple") Option.none (Data.seq (List.toArray [(Value.str (Str.ofString "self") 593), (Value.str (Str.ofString "v_1") 594), (Value.str (Str.ofString "v_3") 595), (Value.str (Str.ofString "among_var") 596), (Value.str (Str.ofString "v_4") 597)]) 0) (List.toArray []))
noncomputable def o442 (E : Wd) : Obj := (Obj.mk Value.none Option.none (Data.func (FuncData.mk (Str.ofString "r_other_suffix") (Str.ofString "DanishStemmer.r_other_suffix") (fnA (clsS 6 7)) (FuncBody.stmts (fnB (clsS 6 7))) (fnC (clsS 6 7)) 0 [] Value.none Value.none Value.none Value.none Option.none Value.none Value.none 0)) (List.toArray []))
noncomputable def o443 (E : Wd) : Obj := (Obj.mk (Value.type "code") Option.none (Data.fields (List.toArray [(Value.str (Str.ofString "r_other_suffix") 590), (Value.str (Str.ofString "DanishStemmer.r_other_suffix") 591), (Value.str (Str.ofString "/claim/cut.py") 592), (Value.int (259 : Int) 0), (Value.int (1 : Int) 0), (Value.int (0 : Int) 0), (Value.int (0 : Int) 0), (Value.int (3 : Int) 0), (Value.ref 254), (Value.bool Bool.true), (Value.int (181 : Int) 0), (Value.ref 255), Value.none, (Value.ref 256), (Value.ref 257), (Value.ref 258), (Value.int (598 : Int) 0), (Value.int (259 : Int) 0), (Value.str (Str.ofString "/claim/cut.py") 599)])) (List.toArray []))
noncomputable def o444 (E : Wd) : Obj := (Obj.mk (Value.type "function") Option.none (Data.func (FuncData.mk (Str.ofString "r_other_suffix") (Str.ofString "DanishStemmer.r_other_suffix") (fnA (clsS 6 7)) (FuncBody.stmts (fnB (clsS 6 7))) (fnC (clsS 6 7)) 3 [] Value.none Value.none Value.none (Value.str (Str.ofString "snowballstemmer.danish_stemmer") 459) Option.none (Value.ref 259) Value.none 0)) (List.toArray []))
noncomputable def o445 (E : Wd) : Obj := (Obj.mk (Value.type "tuple") Option.none (Data.seq (List.toArray [(Value.str (Str.ofString "self") 604), (Value.str (Str.ofString "v_2") 605), (Value.str (Str.ofString "S_ch") 606)]) 0) (List.toArray []))
noncomputable def o446 (E : Wd) : Obj := (Obj.mk Value.none Option.none (Data.func (FuncData.mk (Str.ofString "r_undouble") (Str.ofString "DanishStemmer.r_undouble") (fnA (clsS 6 8)) (FuncBody.stmts (fnB (clsS 6 8))) (fnC (clsS 6 8)) 0 [] Value.none Value.none Value.none Value.none Option.none Value.none Value.none 0)) (List.toArray []))
noncomputable def o447 (E : Wd) : Obj := (Obj.mk (Value.type "code") Option.none (Data.fields (List.toArray [(Value.str (Str.ofString "r_undouble") 601), (Value.str (Str.ofString "DanishStemmer.r_undouble") 602), (Value.str (Str.ofString "/claim/cut.py") 603), (Value.int (292 : Int) 0), (Value.int (1 : Int) 0), (Value.int (0 : Int) 0), (Value.int (0 : Int) 0), (Value.int (3 : Int) 0), (Value.ref 261), (Value.bool Bool.true), (Value.int (181 : Int) 0), (Value.ref 262), Value.none, (Value.ref 263), (Value.ref 264), (Value.ref 265), (Value.int (607 : Int) 0), (Value.int (292 : Int) 0), (Value.str (Str.ofString "/claim/cut.py") 608)])) (List.toArray []))
noncomputable def o448 (E : Wd) : Obj := (Obj.mk (Value.type "function") Option.none (Data.func (FuncData.mk (Str.ofString "r_undouble") (Str.ofString "DanishStemmer.r_undouble") (fnA (clsS 6 8)) (FuncBody.stmts (fnB (clsS 6 8))) (fnC (clsS 6 8)) 3 [] Value.none Value.none Value.none (Value.str (Str.ofString "snowballstemmer.danish_stemmer") 459) Option.none (Value.ref 266) Value.none 0)) (List.toArray []))
noncomputable def o449 (E : Wd) : Obj := (Obj.mk (Value.type "tuple") Option.none (Data.seq (List.toArray [(Value.str (Str.ofString "self") 613), (Value.str (Str.ofString "v_1") 614), (Value.str (Str.ofString "v_2") 615), (Value.str (Str.ofString "v_3") 616), (Value.str (Str.ofString "v_4") 617)]) 0) (List.toArray []))
noncomputable def o450 (E : Wd) : Obj := (Obj.mk Value.none Option.none (Data.func (FuncData.mk (Str.ofString "_stem") (Str.ofString "DanishStemmer._stem") (fnA (clsS 6 9)) (FuncBody.stmts (fnB (clsS 6 9))) (fnC (clsS 6 9)) 0 [] Value.none Value.none Value.none Value.none Option.none Value.none Value.none 0)) (List.toArray []))
noncomputable def o451 (E : Wd) : Obj := (Obj.mk (Value.type "code") Option.none (Data.fields (List.toArray [(Value.str (Str.ofString "_stem") 610), (Value.str (Str.ofString "DanishStemmer._stem") 611), (Value.str (Str.ofString "/claim/cut.py") 612), (Value.int (309 : Int) 0), (Value.int (1 : Int) 0), (Value.int (0 : Int) 0), (Value.int (0 : Int) 0), (Value.int (3 : Int) 0), (Value.ref 268), (Value.bool Bool.true), (Value.int (181 : Int) 0), (Value.ref 269), Value.none, (Value.ref 270), (Value.ref 271), (Value.ref 272), (Value.int (618 : Int) 0), (Value.int (309 : Int) 0), (Value.str (Str.ofString "/claim/cut.py") 619)])) (List.toArray []))
noncomputable def o452 (E : Wd) : Obj := (Obj.mk (Value.type "function") Option.none (Data.func (FuncData.mk (Str.ofString "_stem") (Str.ofString "DanishStemmer._stem") (fnA (clsS 6 9)) (FuncBody.stmts (fnB (clsS 6 9))) (fnC (clsS 6 9)) 3 [] Value.none Value.none Value.none (Value.str (Str.ofString "snowballstemmer.danish_stemmer") 459) Option.none (Value.ref 273) Value.none 0)) (List.toArray []))
noncomputable def o453 (E : Wd) : Obj := (Obj.mk (Value.type "dict") Option.none (Data.dict (List.toArray [(DictEntry.mk (PyData.keyHash E.P (Str.ofString "s")) (Value.str (Str.ofString "s") 630) (Value.str (Str.ofString "hed") 621)), (DictEntry.mk (PyData.keyHash E.P (Str.ofString "substring_i")) (Value.str (Str.ofString "substring_i") 632) (Value.int (-(1 : Int)) 623)), (DictEntry.mk (PyData.keyHash E.P (Str.ofString "result")) (Value.str (Str.ofString "result") 634) (Value.int (1 : Int) 624))]) 3) (List.toArray []))
noncomputable def o454 (E : Wd) : Obj := (Obj.mk (Value.ref 218) (Option.some 275) Data.plain (List.toArray []))
noncomputable def o455 (E : Wd) : Obj := (Obj.mk (Value.type "frame") Option.none (Data.dict (List.toArray [(DictEntry.mk (PyData.keyHash E.P (Str.ofString "self")) (Value.str (Str.ofString "self") 625) (Value.ref 276)), (DictEntry.mk (PyData.keyHash E.P (Str.ofString "s")) (Value.str (Str.ofString "s") 626) (Value.str (Str.ofString "hed") 621)), (DictEntry.mk (PyData.keyHash E.P (Str.ofString "substring_i")) (Value.str (Str.ofString "substring_i") 627) (Value.int (-(1 : Int)) 623)), (DictEntry.mk (PyData.keyHash E.P (Str.ofString "result")) (Value.str (Str.ofString "result") 628) (Value.int (1 : Int) 624))]) 4) (List.toArray []))
noncomputable def o456 (E : Wd) : Obj := (Obj.mk (Value.type "dict") Option.none (Data.dict (List.toArray [(DictEntry.mk (PyData.keyHash E.P (Str.ofString "s")) (Value.str (Str.ofString "s") 643) (Value.str (Str.ofString "ethed") 635)), (DictEntry.mk (PyData.keyHash E.P (Str.ofString "substring_i")) (Value.str (Str.ofString "substring_i") 645) (Value.int (0 : Int) 636)), (DictEntry.mk (PyData.keyHash E.P (Str.ofString "result")) (Value.str (Str.ofString "result") 647) (Value.int (1 : Int) 637))]) 3) (List.toArray []))
noncomputable def o457 (E : Wd) : Obj := (Obj.mk (Value.ref 218) (Option.some 278) Data.plain (List.toArray []))
noncomputable def o458 (E : Wd) : Obj := (Obj.mk (Value.type "frame") Option.none (Data.dict (List.toArray [(DictEntry.mk (PyData.keyHash E.P (Str.ofString "self")) (Value.str (Str.ofString "self") 638) (Value.ref 279)), (DictEntry.mk (PyData.keyHash E.P (Str.ofString "s")) (Value.str (Str.ofString "s") 639) (Value.str (Str.ofString "ethed") 635)), (DictEntry.mk (PyData.keyHash E.P (Str.ofString "substring_i")) (Value.str (Str.ofString "substring_i") 640) (Value.int (0 : Int) 636)), (DictEntry.mk (PyData.keyHash E.P (Str.ofString "result")) (Value.str (Str.ofString "result") 641) (Value.int (1 : Int) 637))]) 4) (List.toArray []))
noncomputable def o459 (E : Wd) : Obj := (Obj.mk (Value.type "dict") Option.none (Data.dict (List.toArray [(DictEntry.mk (PyData.keyHash E.P (Str.ofString "s")) (Value.str (Str.ofString "s") 657) (Value.str (Str.ofString "ered") 648)), (DictEntry.mk (PyData.keyHash E.P (Str.ofString "substring_i")) (Value.str (Str.ofString "substring_i") 659) (Value.int (-(1 : Int)) 650)), (DictEntry.mk (PyData.keyHash E.P (Str.ofString "result")) (Value.str (Str.ofString "result") 661) (Value.int (1 : Int) 651))]) 3) (List.toArray []))
noncomputable def o460 (E : Wd) : Obj := (Obj.mk (Value.ref 218) (Option.some 281) Data.plain (List.toArray []))
noncomputable def o461 (E : Wd) : Obj := (Obj.mk (Value.type "frame") Option.none (Data.dict (List.toArray [(DictEntry.mk (PyData.keyHash E.P (Str.ofString "self")) (Value.str (Str.ofString "self") 652) (Value.ref 282)), (DictEntry.mk (PyData.keyHash E.P (Str.ofString "s")) (Value.str (Str.ofString "s") 653) (Value.str (Str.ofString "ered") 648)), (DictEntry.mk (PyData.keyHash E.P (Str.ofString "substring_i")) (Value.str (Str.ofString "substring_i") 654) (Value.int (-(1 : Int)) 650)), (DictEntry.mk (PyData.keyHash E.P (Str.ofString "result")) (Value.str (Str.ofString "result") 655) (Value.int (1 : Int) 651))]) 4) (List.toArray []))
noncomputable def o462 (E : Wd) : Obj := (Obj.mk (Value.type "dict") Option.none (Data.dict (List.toArray [(DictEntry.mk (PyData.keyHash E.P (Str.ofString "s")) (Value.str (Str.ofString "s") 671) (Value.str (Str.ofString "e") 662)), (DictEntry.mk (PyData.keyHash E.P (Str.ofString "substring_i")) (Value.str (Str.ofString "substring_i") 673) (Value.int (-(1 : Int)) 664)), (DictEntry.mk (PyData.keyHash E.P (Str.ofString "result")) (Value.str (Str.ofString "result") 675) (Value.int (1 : Int) 665))]) 3) (List.toArray []))
noncomputable def o463 (E : Wd) : Obj := (Obj.mk (Value.ref 218) (Option.some 284) Data.plain (List.toArray []))
noncomputable def o464 (E : Wd) : Obj := (Obj.mk (Value.type "frame") Option.none (Data.dict (List.toArray [(DictEntry.mk (PyData.keyHash E.P (Str.ofString "self")) (Value.str (Str.ofString "self") 666) (Value.ref 285)), (DictEntry.mk (PyData.keyHash E.P (Str.ofString "s")) (Value.str (Str.ofString "s") 667) (Value.str (Str.ofString "e") 662)), (DictEntry.mk (PyData.keyHash E.P (Str.ofString "substring_i")) (Value.str (Str.ofString "substring_i") 668) (Value.int (-(1 : Int)) 664)), (DictEntry.mk (PyData.keyHash E.P (Str.ofString "result")) (Value.str (Str.ofString "result") 669) (Value.int (1 : Int) 665))]) 4) (List.toArray []))
noncomputable def o465 (E : Wd) : Obj := (Obj.mk (Value.type "dict") Option.none (Data.dict (List.toArray [(DictEntry.mk (PyData.keyHash E.P (Str.ofString "s")) (Value.str (Str.ofString "s") 684) (Value.str (Str.ofString "erede") 676)), (DictEntry.mk (PyData.keyHash E.P (Str.ofString "substring_i")) (Value.str (Str.ofString "substring_i") 686) (Value.int (3 : Int) 677)), (DictEntry.mk (PyData.keyHash E.P (Str.ofString "result")) (Value.str (Str.ofString "result") 688) (Value.int (1 : Int) 678))]) 3) (List.toArray []))
noncomputable def o466 (E : Wd) : Obj := (Obj.mk (Value.ref 218) (Option.some 287) Data.plain (List.toArray []))
noncomputable def o467 (E : Wd) : Obj := (Obj.mk (Value.type "frame") Option.none (Data.dict (List.toArray [(DictEntry.mk (PyData.keyHash E.P (Str.ofString "self")) (Value.str (Str.ofString "self") 679) (Value.ref 288)), (DictEntry.mk (PyData.keyHash E.P (Str.ofString "s")) (Value.str (Str.ofString "s") 680) (Value.str (Str.ofString "erede") 676)), (DictEntry.mk (PyData.keyHash E.P (Str.ofString "substring_i")) (Value.str (Str.ofString "substring_i") 681) (Value.int (3 : Int) 677)), (DictEntry.mk (PyData.keyHash E.P (Str.ofString "result")) (Value.str (Str.ofString "result") 682) (Value.int (1 : Int) 678))]) 4) (List.toArray []))
noncomputable def o468 (E : Wd) : Obj := (Obj.mk (Value.type "dict") Option.none (Data.dict (List.toArray [(DictEntry.mk (PyData.keyHash E.P (Str.ofString "s")) (Value.str (Str.ofString "s") 697) (Value.str (Str.ofString "ende") 689)), (DictEntry.mk (PyData.keyHash E.P (Str.ofString "substring_i")) (Value.str (Str.ofString "substring_i") 699) (Value.int (3 : Int) 690)), (DictEntry.mk (PyData.keyHash E.P (Str.ofString "result")) (Value.str (Str.ofString "result") 701) (Value.int (1 : Int) 691))]) 3) (List.toArray []))
noncomputable def o469 (E : Wd) : Obj := (Obj.mk (Value.ref 218) (Option.some 290) Data.plain (List.toArray []))
noncomputable def o470 (E : Wd) : Obj := (Obj.mk (Value.type "frame") Option.none (Data.dict (List.toArray [(DictEntry.mk (PyData.keyHash E.P (Str.ofString "self")) (Value.str (Str.ofString "self") 692) (Value.ref 291)), (DictEntry.mk (PyData.keyHash E.P (Str.ofString "s")) (Value.str (Str.ofString "s") 693) (Value.str (Str.ofString "ende") 689)), (DictEntry.mk (PyData.keyHash E.P (Str.ofString "substring_i")) (Value.str (Str.ofString "substring_i") 694) (Value.int (3 : Int) 690)), (DictEntry.mk (PyData.keyHash E.P (Str.ofString "result")) (Value.str (Str.ofString "result") 695) (Value.int (1 : Int) 691))]) 4) (List.toArray []))
noncomputable def o471 (E : Wd) : Obj := (Obj.mk (Value.type "dict") Option.none (Data.dict (List.toArray [(DictEntry.mk (PyData.keyHash E.P (Str.ofString "s")) (Value.str (Str.ofString "s") 710) (Value.str (Str.ofString "erende") 702)), (DictEntry.mk (PyData.keyHash E.P (Str.ofString "substring_i")) (Value.str (Str.ofString "substring_i") 712) (Value.int (5 : Int) 703)), (DictEntry.mk (PyData.keyHash E.P (Str.ofString "result")) (Value.str (Str.ofString "result") 714) (Value.int (1 : Int) 704))]) 3) (List.toArray []))
noncomputable def o472 (E : Wd) : Obj := (Obj.mk (Value.ref 218) (Option.some 293) Data.plain (List.toArray []))
noncomputable def o473 (E : Wd) : Obj := (Obj.mk (Value.type "frame") Option.none (Data.dict (List.toArray [(DictEntry.mk (PyData.keyHash E.P (Str.ofString "self")) (Value.str (Str.ofString "self") 705) (Value.ref 294)), (DictEntry.mk (PyData.keyHash E.P (Str.ofString "s")) (Value.str (Str.ofString "s") 706) (Value.str (Str.ofString "erende") 702)), (DictEntry.mk (PyData.keyHash E.P (Str.ofString "substring_i")) (Value.str (Str.ofString "substring_i") 707) (Value.int (5 : Int) 703)), (DictEntry.mk (PyData.keyHash E.P (Str.ofString "result")) (Value.str (Str.ofString "result") 708) (Value.int (1 : Int) 704))]) 4) (List.toArray []))
noncomputable def o474 (E : Wd) : Obj := (Obj.mk (Value.type "dict") Option.none (Data.dict (List.toArray [(DictEntry.mk (PyData.keyHash E.P (Str.ofString "s")) (Value.str (Str.ofString "s") 723) (Value.str (Str.ofString "ene") 715)), (DictEntry.mk (PyData.keyHash E.P (Str.ofString "substring_i")) (Value.str (Str.ofString "substring_i") 725) (Value.int (3 : Int) 716)), (DictEntry.mk (PyData.keyHash E.P (Str.ofString "result")) (Value.str (Str.ofString "result") 727) (Value.int (1 : Int) 717))]) 3) (List.toArray []))
noncomputable def o475 (E : Wd) : Obj := (Obj.mk (Value.ref 218) (Option.some 296) Data.plain (List.toArray []))
noncomputable def o476 (E : Wd) : Obj := (Obj.mk (Value.type "frame") Option.none (Data.dict (List.toArray [(DictEntry.mk (PyData.keyHash E.P (Str.ofString "self")) (Value.str (Str.ofString "self") 718) (Value.ref 297)), (DictEntry.mk (PyData.keyHash E.P (Str.ofString "s")) (Value.str (Str.ofString "s") 719) (Value.str (Str.ofString "ene") 715)), (DictEntry.mk (PyData.keyHash E.P (Str.ofString "substring_i")) (Value.str (Str.ofString "substring_i") 720) (Value.int (3 : Int) 716)), (DictEntry.mk (PyData.keyHash E.P (Str.ofString "result")) (Value.str (Str.ofString "result") 721) (Value.int (1 : Int) 717))]) 4) (List.toArray []))
noncomputable def o477 (E : Wd) : Obj := (Obj.mk (Value.type "dict") Option.none (Data.dict (List.toArray [(DictEntry.mk (PyData.keyHash E.P (Str.ofString "s")) (Value.str (Str.ofString "s") 736) (Value.str (Str.ofString "erne") 728)), (DictEntry.mk (PyData.keyHash E.P (Str.ofString "substring_i")) (Value.str (Str.ofString "substring_i") 738) (Value.int (3 : Int) 729)), (DictEntry.mk (PyData.keyHash E.P (Str.ofString "result")) (Value.str (Str.ofString "result") 740) (Value.int (1 : Int) 730))]) 3) (List.toArray []))
noncomputable def o478 (E : Wd) : Obj := (Obj.mk (Value.ref 218) (Option.some 299) Data.plain (List.toArray []))
noncomputable def o479 (E : Wd) : Obj := (Obj.mk (Value.type "frame") Option.none (Data.dict (List.toArray [(DictEntry.mk (PyData.keyHash E.P (Str.ofString "self")) (Value.str (Str.ofString "self") 731) (Value.ref 300)), (DictEntry.mk (PyData.keyHash E.P (Str.ofString "s")) (Value.str (Str.ofString "s") 732) (Value.str (Str.ofString "erne") 728)), (DictEntry.mk (PyData.keyHash E.P (Str.ofString "substring_i")) (Value.str (Str.ofString "substring_i") 733) (Value.int (3 : Int) 729)), (DictEntry.mk (PyData.keyHash E.P (Str.ofString "result")) (Value.str (Str.ofString "result") 734) (Value.int (1 : Int) 730))]) 4) (List.toArray []))
noncomputable def o480 (E : Wd) : Obj := (Obj.mk (Value.type "dict") Option.none (Data.dict (List.toArray [(DictEntry.mk (PyData.keyHash E.P (Str.ofString "s")) (Value.str (Str.ofString "s") 749) (Value.str (Str.ofString "ere") 741)), (DictEntry.mk (PyData.keyHash E.P (Str.ofString "substring_i")) (Value.str (Str.ofString "substring_i") 751) (Value.int (3 : Int) 742)), (DictEntry.mk (PyData.keyHash E.P (Str.ofString "result")) (Value.str (Str.ofString "result") 753) (Value.int (1 : Int) 743))]) 3) (List.toArray []))
noncomputable def o481 (E : Wd) : Obj := (Obj.mk (Value.ref 218) (Option.some 302) Data.plain (List.toArray []))
noncomputable def o482 (E : Wd) : Obj := (Obj.mk (Value.type "frame") Option.none (Data.dict (List.toArray [(DictEntry.mk (PyData.keyHash E.P (Str.ofString "self")) (Value.str (Str.ofString "self") 744) (Value.ref 303)), (DictEntry.mk (PyData.keyHash E.P (Str.ofString "s")) (Value.str (Str.ofString "s") 745) (Value.str (Str.ofString "ere") 741)), (DictEntry.mk (PyData.keyHash E.P (Str.ofString "substring_i")) (Value.str (Str.ofString "substring_i") 746) (Value.int (3 : Int) 742)), (DictEntry.mk (PyData.keyHash E.P (Str.ofString "result")) (Value.str (Str.ofString "result") 747) (Value.int (1 : Int) 743))]) 4) (List.toArray []))
noncomputable def o483 (E : Wd) : Obj := (Obj.mk (Value.type "dict") Option.none (Data.dict (List.toArray [(DictEntry.mk (PyData.keyHash E.P (Str.ofString "s")) (Value.str (Str.ofString "s") 763) (Value.str (Str.ofString "en") 754)), (DictEntry.mk (PyData.keyHash E.P (Str.ofString "substring_i")) (Value.str (Str.ofString "substring_i") 765) (Value.int (-(1 : Int)) 756)), (DictEntry.mk (PyData.keyHash E.P (Str.ofString "result")) (Value.str (Str.ofString "result") 767) (Value.int (1 : Int) 757))]) 3) (List.toArray []))
noncomputable def o484 (E : Wd) : Obj := (Obj.mk (Value.ref 218) (Option.some 305) Data.plain (List.toArray []))
noncomputable def o485 (E : Wd) : Obj := (Obj.mk (Value.type "frame") Option.none (Data.dict (List.toArray [(DictEntry.mk (PyData.keyHash E.P (Str.ofString "self")) (Value.str (Str.ofString "self") 758) (Value.ref 306)), (DictEntry.mk (PyData.keyHash E.P (Str.ofString "s")) (Value.str (Str.ofString "s") 759) (Value.str (Str.ofString "en") 754)), (DictEntry.mk (PyData.keyHash E.P (Str.ofString "substring_i")) (Value.str (Str.ofString "substring_i") 760) (Value.int (-(1 : Int)) 756)), (DictEntry.mk (PyData.keyHash E.P (Str.ofString "result")) (Value.str (Str.ofString "result") 761) (Value.int (1 : Int) 757))]) 4) (List.toArray []))
noncomputable def o486 (E : Wd) : Obj := (Obj.mk (Value.type "dict") Option.none (Data.dict (List.toArray [(DictEntry.mk (PyData.keyHash E.P (Str.ofString "s")) (Value.str (Str.ofString "s") 776) (Value.str (Str.ofString "heden") 768)), (DictEntry.mk (PyData.keyHash E.P (Str.ofString "substring_i")) (Value.str (Str.ofString "substring_i") 778) (Value.int (10 : Int) 769)), (DictEntry.mk (PyData.keyHash E.P (Str.ofString "result")) (Value.str (Str.ofString "result") 780) (Value.int (1 : Int) 770))]) 3) (List.toArray []))
noncomputable def o487 (E : Wd) : Obj := (Obj.mk (Value.ref 218) (Option.some 308) Data.plain (List.toArray []))
noncomputable def o488 (E : Wd) : Obj := (Obj.mk (Value.type "frame") Option.none (Data.dict (List.toArray [(DictEntry.mk (PyData.keyHash E.P (Str.ofString "self")) (Value.str (Str.ofString "self") 771) (Value.ref 309)), (DictEntry.mk (PyData.keyHash E.P (Str.ofString "s")) (Value.str (Str.ofString "s") 772) (Value.str (Str.ofString "heden") 768)), (DictEntry.mk (PyData.keyHash E.P (Str.ofString "substring_i")) (Value.str (Str.ofString "substring_i") 773) (Value.int (10 : Int) 769)), (DictEntry.mk (PyData.keyHash E.P (Str.ofString "result")) (Value.str (Str.ofString "result") 774) (Value.int (1 : Int) 770))]) 4) (List.toArray []))
noncomputable def o489 (E : Wd) : Obj := (Obj.mk (Value.type "dict") Option.none (Data.dict (List.toArray [(DictEntry.mk (PyData.keyHash E.P (Str.ofString "s")) (Value.str (Str.ofString "s") 789) (Value.str (Str.ofString "eren") 781)), (DictEntry.mk (PyData.keyHash E.P (Str.ofString "substring_i")) (Value.str (Str.ofString "substring_i") 791) (Value.int (10 : Int) 782)), (DictEntry.mk (PyData.keyHash E.P (Str.ofString "result")) (Value.str (Str.ofString "result") 793) (Value.int (1 : Int) 783))]) 3) (List.toArray []))
noncomputable def o490 (E : Wd) : Obj := (Obj.mk (Value.ref 218) (Option.some 311) Data.plain (List.toArray []))
noncomputable def o491 (E : Wd) : Obj := (Obj.mk (Value.type "frame") Option.none (Data.dict (List.toArray [(DictEntry.mk (PyData.keyHash E.P (Str.ofString "self")) (Value.str (Str.ofString "self") 784) (Value.ref 312)), (DictEntry.mk (PyData.keyHash E.P (Str.ofString "s")) (Value.str (Str.ofString "s") 785) (Value.str (Str.ofString "eren") 781)), (DictEntry.mk (PyData.keyHash E.P (Str.ofString "substring_i")) (Value.str (Str.ofString "substring_i") 786) (Value.int (10 : Int) 782)), (DictEntry.mk (PyData.keyHash E.P (Str.ofString "result")) (Value.str (Str.ofString "result") 787) (Value.int (1 : Int) 783))]) 4) (List.toArray []))
noncomputable def o492 (E : Wd) : Obj := (Obj.mk (Value.type "dict") Option.none (Data.dict (List.toArray [(DictEntry.mk (PyData.keyHash E.P (Str.ofString "s")) (Value.str (Str.ofString "s") 803) (Value.str (Str.ofString "er") 794)), (DictEntry.mk (PyData.keyHash E.P (Str.ofString "substring_i")) (Value.str (Str.ofString "substring_i") 805) (Value.int (-(1 : Int)) 796)), (DictEntry.mk (PyData.keyHash E.P (Str.ofString "result")) (Value.str (Str.ofString "result") 807) (Value.int (1 : Int) 797))]) 3) (List.toArray []))
noncomputable def o493 (E : Wd) : Obj := (Obj.mk (Value.ref 218) (Option.some 314) Data.plain (List.toArray []))
noncomputable def o494 (E : Wd) : Obj := (Obj.mk (Value.type "frame") Option.none (Data.dict (List.toArray [(DictEntry.mk (PyData.keyHash E.P (Str.ofString "self")) (Value.str (Str.ofString "self") 798) (Value.ref 315)), (DictEntry.mk (PyData.keyHash E.P (Str.ofString "s")) (Value.str (Str.ofString "s") 799) (Value.str (Str.ofString "er") 794)), (DictEntry.mk (PyData.keyHash E.P (Str.ofString "substring_i")) (Value.str (Str.ofString "substring_i") 800) (Value.int (-(1 : Int)) 796)), (DictEntry.mk (PyData.keyHash E.P (Str.ofString "result")) (Value.str (Str.ofString "result") 801) (Value.int (1 : Int) 797))]) 4) (List.toArray []))
noncomputable def o495 (E : Wd) : Obj := (Obj.mk (Value.type "dict") Option.none (Data.dict (List.toArray [(DictEntry.mk (PyData.keyHash E.P (Str.ofString "s")) (Value.str (Str.ofString "s") 816) (Value.str (Str.ofString "heder") 808)), (DictEntry.mk (PyData.keyHash E.P (Str.ofString "substring_i")) (Value.str (Str.ofString "substring_i") 818) (Value.int (13 : Int) 809)), (DictEntry.mk (PyData.keyHash E.P (Str.ofString "result")) (Value.str (Str.ofString "result") 820) (Value.int (1 : Int) 810))]) 3) (List.toArray []))
noncomputable def o496 (E : Wd) : Obj := (Obj.mk (Value.ref 218) (Option.some 317) Data.plain (List.toArray []))
noncomputable def o497 (E : Wd) : Obj := (Obj.mk (Value.type "frame") Option.none (Data.dict (List.toArray [(DictEntry.mk (PyData.keyHash E.P (Str.ofString "self")) (Value.str (Str.ofString "self") 811) (Value.ref 318)), (DictEntry.mk (PyData.keyHash E.P (Str.ofString "s")) (Value.str (Str.ofString "s") 812) (Value.str (Str.ofString "heder") 808)), (DictEntry.mk (PyData.keyHash E.P (Str.ofString "substring_i")) (Value.str (Str.ofString "substring_i") 813) (Value.int (13 : Int) 809)), (DictEntry.mk (PyData.keyHash E.P (Str.ofString "result")) (Value.str (Str.ofString "result") 814) (Value.int (1 : Int) 810))]) 4) (List.toArray []))
noncomputable def o498 (E : Wd) : Obj := (Obj.mk (Value.type "dict") Option.none (Data.dict (List.toArray [(DictEntry.mk (PyData.keyHash E.P (Str.ofString "s")) (Value.str (Str.ofString "s") 829) (Value.str (Str.ofString "erer") 821)), (DictEntry.mk (PyData.keyHash E.P (Str.ofString "substring_i")) (Value.str (Str.ofString "substring_i") 831) (Value.int (13 : Int) 822)), (DictEntry.mk (PyData.keyHash E.P (Str.ofString "result")) (Value.str (Str.ofString "result") 833) (Value.int (1 : Int) 823))]) 3) (List.toArray []))
noncomputable def o499 (E : Wd) : Obj := (Obj.mk (Value.ref 218) (Option.some 320) Data.plain (List.toArray []))
noncomputable def o500 (E : Wd) : Obj := (Obj.mk (Value.type "frame") Option.none (Data.dict (List.toArray [(DictEntry.mk (PyData.keyHash E.P (Str.ofString "self")) (Value.str (Str.ofString "self") 824) (Value.ref 321)), (DictEntry.mk (PyData.keyHash E.P (Str.ofString "s")) (Value.str (Str.ofString "s") 825) (Value.str (Str.ofString "erer") 821)), (DictEntry.mk (PyData.keyHash E.P (Str.ofString "substring_i")) (Value.str (Str.ofString "substring_i") 826) (Value.int (13 : Int) 822)), (DictEntry.mk (PyData.keyHash E.P (Str.ofString "result")) (Value.str (Str.ofString "result") 827) (Value.int (1 : Int) 823))]) 4) (List.toArray []))
noncomputable def o501 (E : Wd) : Obj := (Obj.mk (Value.type "dict") Option.none (Data.dict (List.toArray [(DictEntry.mk (PyData.keyHash E.P (Str.ofString "s")) (Value.str (Str.ofString "s") 843) (Value.str (Str.ofString "s") 834)), (DictEntry.mk (PyData.keyHash E.P (Str.ofString "substring_i")) (Value.str (Str.ofString "substring_i") 845) (Value.int (-(1 : Int)) 836)), (DictEntry.mk (PyData.keyHash E.P (Str.ofString "result")) (Value.str (Str.ofString "result") 847) (Value.int (2 : Int) 837))]) 3) (List.toArray []))
noncomputable def o502 (E : Wd) : Obj := (Obj.mk (Value.ref 218) (Option.some 323) Data.plain (List.toArray []))
noncomputable def o503 (E : Wd) : Obj := (Obj.mk (Value.type "frame") Option.none (Data.dict (List.toArray [(DictEntry.mk (PyData.keyHash E.P (Str.ofString "self")) (Value.str (Str.ofString "self") 838) (Value.ref 324)), (DictEntry.mk (PyData.keyHash E.P (Str.ofString "s")) (Value.str (Str.ofString "s") 839) (Value.str (Str.ofString "s") 834)), (DictEntry.mk (PyData.keyHash E.P (Str.ofString "substring_i")) (Value.str (Str.ofString "substring_i") 840) (Value.int (-(1 : Int)) 836)), (DictEntry.mk (PyData.keyHash E.P (Str.ofString "result")) (Value.str (Str.ofString "result") 841) (Value.int (2 : Int) 837))]) 4) (List.toArray []))
noncomputable def o504 (E : Wd) : Obj := (Obj.mk (Value.type "dict") Option.none (Data.dict (List.toArray [(DictEntry.mk (PyData.keyHash E.P (Str.ofString "s")) (Value.str (Str.ofString "s") 856) (Value.str (Str.ofString "heds") 848)), (DictEntry.mk (PyData.keyHash E.P (Str.ofString "substring_i")) (Value.str (Str.ofString "substring_i") 858) (Value.int (16 : Int) 849)), (DictEntry.mk (PyData.keyHash E.P (Str.ofString "result")) (Value.str (Str.ofString "result") 860) (Value.int (1 : Int) 850))]) 3) (List.toArray []))
noncomputable def o505 (E : Wd) : Obj := (Obj.mk (Value.ref 218) (Option.some 326) Data.plain (List.toArray []))
noncomputable def o506 (E : Wd) : Obj := (Obj.mk (Value.type "frame") Option.none (Data.dict (List.toArray [(DictEntry.mk (PyData.keyHash E.P (Str.ofString "self")) (Value.str (Str.ofString "self") 851) (Value.ref 327)), (DictEntry.mk (PyData.keyHash E.P (Str.ofString "s")) (Value.str (Str.ofString "s") 852) (Value.str (Str.ofString "heds") 848)), (DictEntry.mk (PyData.keyHash E.P (Str.ofString "substring_i")) (Value.str (Str.ofString "substring_i") 853) (Value.int (16 : Int) 849)), (DictEntry.mk (PyData.keyHash E.P (Str.ofString "result")) (Value.str (Str.ofString "result") 854) (Value.int (1 : Int) 850))]) 4) (List.toArray []))
noncomputable def o507 (E : Wd) : Obj := (Obj.mk (Value.type "dict") Option.none (Data.dict (List.toArray [(DictEntry.mk (PyData.keyHash E.P (Str.ofString "s")) (Value.str (Str.ofString "s") 869) (Value.str (Str.ofString "es") 861)), (DictEntry.mk (PyData.keyHash E.P (Str.ofString "substring_i")) (Value.str (Str.ofString "substring_i") 871) (Value.int (16 : Int) 862)), (DictEntry.mk (PyData.keyHash E.P (Str.ofString "result")) (Value.str (Str.ofString "result") 873) (Value.int (1 : Int) 863))]) 3) (List.toArray []))
noncomputable def o508 (E : Wd) : Obj := (Obj.mk (Value.ref 218) (Option.some 329) Data.plain (List.toArray []))
noncomputable def o509 (E : Wd) : Obj := (Obj.mk (Value.type "frame") Option.none (Data.dict (List.toArray [(DictEntry.mk (PyData.keyHash E.P (Str.ofString "self")) (Value.str (Str.ofString "self") 864) (Value.ref 330)), (DictEntry.mk (PyData.keyHash E.P (Str.ofString "s")) (Value.str (Str.ofString "s") 865) (Value.str (Str.ofString "es") 861)), (DictEntry.mk (PyData.keyHash E.P (Str.ofString "substring_i")) (Value.str (Str.ofString "substring_i") 866) (Value.int (16 : Int) 862)), (DictEntry.mk (PyData.keyHash E.P (Str.ofString "result")) (Value.str (Str.ofString "result") 867) (Value.int (1 : Int) 863))]) 4) (List.toArray []))
noncomputable def o510 (E : Wd) : Obj := (Obj.mk (Value.type "dict") Option.none (Data.dict (List.toArray [(DictEntry.mk (PyData.keyHash E.P (Str.ofString "s")) (Value.str (Str.ofString "s") 882) (Value.str (Str.ofString "endes") 874)), (DictEntry.mk (PyData.keyHash E.P (Str.ofString "substring_i")) (Value.str (Str.ofString "substring_i") 884) (Value.int (18 : Int) 875)), (DictEntry.mk (PyData.keyHash E.P (Str.ofString "result")) (Value.str (Str.ofString "result") 886) (Value.int (1 : Int) 876))]) 3) (List.toArray []))
noncomputable def o511 (E : Wd) : Obj := (Obj.mk (Value.ref 218) (Option.some 332) Data.plain (List.toArray []))
noncomputable def o512 (E : Wd) : Obj := (Obj.mk (Value.type "frame") Option.none (Data.dict (List.toArray [(DictEntry.mk (PyData.keyHash E.P (Str.ofString "self")) (Value.str (Str.ofString "self") 877) (Value.ref 333)), (DictEntry.mk (PyData.keyHash E.P (Str.ofString "s")) (Value.str (Str.ofString "s") 878) (Value.str (Str.ofString "endes") 874)), (DictEntry.mk (PyData.keyHash E.P (Str.ofString "substring_i")) (Value.str (Str.ofString "substring_i") 879) (Value.int (18 : Int) 875)), (DictEntry.mk (PyData.keyHash E.P (Str.ofString "result")) (Value.str (Str.ofString "result") 880) (Value.int (1 : Int) 876))]) 4) (List.toArray []))
noncomputable def o513 (E : Wd) : Obj := (Obj.mk (Value.type "dict") Option.none (Data.dict (List.toArray [(DictEntry.mk (PyData.keyHash E.P (Str.ofString "s")) (Value.str (Str.ofString "s") 895) (Value.str (Str.ofString "erendes") 887)), (DictEntry.mk (PyData.keyHash E.P (Str.ofString "substring_i")) (Value.str (Str.ofString "substring_i") 897) (Value.int (19 : Int) 888)), (DictEntry.mk (PyData.keyHash E.P (Str.ofString "result")) (Value.str (Str.ofString "result") 899) (Value.int (1 : Int) 889))]) 3) (List.toArray []))
noncomputable def o514 (E : Wd) : Obj := (Obj.mk (Value.ref 218) (Option.some 335) Data.plain (List.toArray []))
noncomputable def o515 (E : Wd) : Obj := (Obj.mk (Value.type "frame") Option.none (Data.dict (List.toArray [(DictEntry.mk (PyData.keyHash E.P (Str.ofString "self")) (Value.str (Str.ofString "self") 890) (Value.ref 336)), (DictEntry.mk (PyData.keyHash E.P (Str.ofString "s")) (Value.str (Str.ofString "s") 891) (Value.str (Str.ofString "erendes") 887)), (DictEntry.mk (PyData.keyHash E.P (Str.ofString "substring_i")) (Value.str (Str.ofString "substring_i") 892) (Value.int (19 : Int) 888)), (DictEntry.mk (PyData.keyHash E.P (Str.ofString "result")) (Value.str (Str.ofString "result") 893) (Value.int (1 : Int) 889))]) 4) (List.toArray []))
noncomputable def o516 (E : Wd) : Obj := (Obj.mk (Value.type "dict") Option.none (Data.dict (List.toArray [(DictEntry.mk (PyData.keyHash E.P (Str.ofString "s")) (Value.str (Str.ofString "s") 908) (Value.str (Str.ofString "enes") 900)), (DictEntry.mk (PyData.keyHash E.P (Str.ofString "substring_i")) (Value.str (Str.ofString "substring_i") 910) (Value.int (18 : Int) 901)), (DictEntry.mk (PyData.keyHash E.P (Str.ofString "result")) (Value.str (Str.ofString "result") 912) (Value.int (1 : Int) 902))]) 3) (List.toArray []))
noncomputable def o517 (E : Wd) : Obj := (Obj.mk (Value.ref 218) (Option.some 338) Data.plain (List.toArray []))
noncomputable def o518 (E : Wd) : Obj := (Obj.mk (Value.type "frame") Option.none (Data.dict (List.toArray [(DictEntry.mk (PyData.keyHash E.P (Str.ofString "self")) (Value.str (Str.ofString "self") 903) (Value.ref 339)), (DictEntry.mk (PyData.keyHash E.P (Str.ofString "s")) (Value.str (Str.ofString "s") 904) (Value.str (Str.ofString "enes") 900)), (DictEntry.mk (PyData.keyHash E.P (Str.ofString "substring_i")) (Value.str (Str.ofString "substring_i") 905) (Value.int (18 : Int) 901)), (DictEntry.mk (PyData.keyHash E.P (Str.ofString "result")) (Value.str (Str.ofString "result") 906) (Value.int (1 : Int) 902))]) 4) (List.toArray []))
noncomputable def o519 (E : Wd) : Obj := (Obj.mk (Value.type "dict") Option.none (Data.dict (List.toArray [(DictEntry.mk (PyData.keyHash E.P (Str.ofString "s")) (Value.str (Str.ofString "s") 921) (Value.str (Str.ofString "ernes") 913)), (DictEntry.mk (PyData.keyHash E.P (Str.ofString "substring_i")) (Value.str (Str.ofString "substring_i") 923) (Value.int (18 : Int) 914)), (DictEntry.mk (PyData.keyHash E.P (Str.ofString "result")) (Value.str (Str.ofString "result") 925) (Value.int (1 : Int) 915))]) 3) (List.toArray []))
noncomputable def o520 (E : Wd) : Obj := (Obj.mk (Value.ref 218) (Option.some 341) Data.plain (List.toArray []))
noncomputable def o521 (E : Wd) : Obj := (Obj.mk (Value.type "frame") Option.none (Data.dict (List.toArray [(DictEntry.mk (PyData.keyHash E.P (Str.ofString "self")) (Value.str (Str.ofString "self") 916) (Value.ref 342)), (DictEntry.mk (PyData.keyHash E.P (Str.ofString "s")) (Value.str (Str.ofString "s") 917) (Value.str (Str.ofString "ernes") 913)), (DictEntry.mk (PyData.keyHash E.P (Str.ofString "substring_i")) (Value.str (Str.ofString "substring_i") 918) (Value.int (18 : Int) 914)), (DictEntry.mk (PyData.keyHash E.P (Str.ofString "result")) (Value.str (Str.ofString "result") 919) (Value.int (1 : Int) 915))]) 4) (List.toArray []))
noncomputable def o522 (E : Wd) : Obj := (Obj.mk (Value.type "dict") Option.none (Data.dict (List.toArray [(DictEntry.mk (PyData.keyHash E.P (Str.ofString "s")) (Value.str (Str.ofString "s") 934) (Value.str (Str.ofString "eres") 926)), (DictEntry.mk (PyData.keyHash E.P (Str.ofString "substring_i")) (Value.str (Str.ofString "substring_i") 936) (Value.int (18 : Int) 927)), (DictEntry.mk (PyData.keyHash E.P (Str.ofString "result")) (Value.str (Str.ofString "result") 938) (Value.int (1 : Int) 928))]) 3) (List.toArray []))
noncomputable def o523 (E : Wd) : Obj := (Obj.mk (Value.ref 218) (Option.some 344) Data.plain (List.toArray []))
noncomputable def o524 (E : Wd) : Obj := (Obj.mk (Value.type "frame") Option.none (Data.dict (List.toArray [(DictEntry.mk (PyData.keyHash E.P (Str.ofString "self")) (Value.str (Str.ofString "self") 929) (Value.ref 345)), (DictEntry.mk (PyData.keyHash E.P (Str.ofString "s")) (Value.str (Str.ofString "s") 930) (Value.str (Str.ofString "eres") 926)), (DictEntry.mk (PyData.keyHash E.P (Str.ofString "substring_i")) (Value.str (Str.ofString "substring_i") 931) (Value.int (18 : Int) 927)), (DictEntry.mk (PyData.keyHash E.P (Str.ofString "result")) (Value.str (Str.ofString "result") 932) (Value.int (1 : Int) 928))]) 4) (List.toArray []))
noncomputable def o525 (E : Wd) : Obj := (Obj.mk (Value.type "dict") Option.none (Data.dict (List.toArray [(DictEntry.mk (PyData.keyHash E.P (Str.ofString "s")) (Value.str (Str.ofString "s") 947) (Value.str (Str.ofString "ens") 939)), (DictEntry.mk (PyData.keyHash E.P (Str.ofString "substring_i")) (Value.str (Str.ofString "substring_i") 949) (Value.int (16 : Int) 940)), (DictEntry.mk (PyData.keyHash E.P (Str.ofString "result")) (Value.str (Str.ofString "result") 951) (Value.int (1 : Int) 941))]) 3) (List.toArray []))
noncomputable def o526 (E : Wd) : Obj := (Obj.mk (Value.ref 218) (Option.some 347) Data.plain (List.toArray []))
noncomputable def o527 (E : Wd) : Obj := (Obj.mk (Value.type "frame") Option.none (Data.dict (List.toArray [(DictEntry.mk (PyData.keyHash E.P (Str.ofString "self")) (Value.str (Str.ofString "self") 942) (Value.ref 348)), (DictEntry.mk (PyData.keyHash E.P (Str.ofString "s")) (Value.str (Str.ofString "s") 943) (Value.str (Str.ofString "ens") 939)), (DictEntry.mk (PyData.keyHash E.P (Str.ofString "substring_i")) (Value.str (Str.ofString "substring_i") 944) (Value.int (16 : Int) 940)), (DictEntry.mk (PyData.keyHash E.P (Str.ofString "result")) (Value.str (Str.ofString "result") 945) (Value.int (1 : Int) 941))]) 4) (List.toArray []))
noncomputable def o528 (E : Wd) : Obj := (Obj.mk (Value.type "dict") Option.none (Data.dict (List.toArray [(DictEntry.mk (PyData.keyHash E.P (Str.ofString "s")) (Value.str (Str.ofString "s") 960) (Value.str (Str.ofString "hedens") 952)), (DictEntry.mk (PyData.keyHash E.P (Str.ofString "substring_i")) (Value.str (Str.ofString "substring_i") 962) (Value.int (24 : Int) 953)), (DictEntry.mk (PyData.keyHash E.P (Str.ofString "result")) (Value.str (Str.ofString "result") 964) (Value.int (1 : Int) 954))]) 3) (List.toArray []))
noncomputable def o529 (E : Wd) : Obj := (Obj.mk (Value.ref 218) (Option.some 350) Data.plain (List.toArray []))
noncomputable def o530 (E : Wd) : Obj := (Obj.mk (Value.type "frame") Option.none (Data.dict (List.toArray [(DictEntry.mk (PyData.keyHash E.P (Str.ofString "self")) (Value.str (Str.ofString "self") 955) (Value.ref 351)), (DictEntry.mk (PyData.keyHash E.P (Str.ofString "s")) (Value.str (Str.ofString "s") 956) (Value.str (Str.ofString "hedens") 952)), (DictEntry.mk (PyData.keyHash E.P (Str.ofString "substring_i")) (Value.str (Str.ofString "substring_i") 957) (Value.int (24 : Int) 953)), (DictEntry.mk (PyData.keyHash E.P (Str.ofString "result")) (Value.str (Str.ofString "result") 958) (Value.int (1 : Int) 954))]) 4) (List.toArray []))
noncomputable def o531 (E : Wd) : Obj := (Obj.mk (Value.type "dict") Option.none (Data.dict (List.toArray [(DictEntry.mk (PyData.keyHash E.P (Str.ofString "s")) (Value.str (Str.ofString "s") 973) (Value.str (Str.ofString "erens") 965)), (DictEntry.mk (PyData.keyHash E.P (Str.ofString "substring_i")) (Value.str (Str.ofString "substring_i") 975) (Value.int (24 : Int) 966)), (DictEntry.mk (PyData.keyHash E.P (Str.ofString "result")) (Value.str (Str.ofString "result") 977) (Value.int (1 : Int) 967))]) 3) (List.toArray []))
noncomputable def o532 (E : Wd) : Obj := (Obj.mk (Value.ref 218) (Option.some 353) Data.plain (List.toArray []))
noncomputable def o533 (E : Wd) : Obj := (Obj.mk (Value.type "frame") Option.none (Data.dict (List.toArray [(DictEntry.mk (PyData.keyHash E.P (Str.ofString "self")) (Value.str (Str.ofString "self") 968) (Value.ref 354)), (DictEntry.mk (PyData.keyHash E.P (Str.ofString "s")) (Value.str (Str.ofString "s") 969) (Value.str (Str.ofString "erens") 965)), (DictEntry.mk (PyData.keyHash E.P (Str.ofString "substring_i")) (Value.str (Str.ofString "substring_i") 970) (Value.int (24 : Int) 966)), (DictEntry.mk (PyData.keyHash E.P (Str.ofString "result")) (Value.str (Str.ofString "result") 971) (Value.int (1 : Int) 967))]) 4) (List.toArray []))
noncomputable def o534 (E : Wd) : Obj := (Obj.mk (Value.type "dict") Option.none (Data.dict (List.toArray [(DictEntry.mk (PyData.keyHash E.P (Str.ofString "s")) (Value.str (Str.ofString "s") 986) (Value.str (Str.ofString "ers") 978)), (DictEntry.mk (PyData.keyHash E.P (Str.ofString "substring_i")) (Value.str (Str.ofString "substring_i") 988) (Value.int (16 : Int) 979)), (DictEntry.mk (PyData.keyHash E.P (Str.ofString "result")) (Value.str (Str.ofString "result") 990) (Value.int (1 : Int) 980))]) 3) (List.toArray []))
noncomputable def o535 (E : Wd) : Obj := (Obj.mk (Value.ref 218) (Option.some 356) Data.plain (List.toArray []))
noncomputable def o536 (E : Wd) : Obj := (Obj.mk (Value.type "frame") Option.none (Data.dict (List.toArray [(DictEntry.mk (PyData.keyHash E.P (Str.ofString "self")) (Value.str (Str.ofString "self") 981) (Value.ref 357)), (DictEntry.mk (PyData.keyHash E.P (Str.ofString "s")) (Value.str (Str.ofString "s") 982) (Value.str (Str.ofString "ers") 978)), (DictEntry.mk (PyData.keyHash E.P (Str.ofString "substring_i")) (Value.str (Str.ofString "substring_i") 983) (Value.int (16 : Int) 979)), (DictEntry.mk (PyData.keyHash E.P (Str.ofString "result")) (Value.str (Str.ofString "result") 984) (Value.int (1 : Int) 980))]) 4) (List.toArray []))
noncomputable def o537 (E : Wd) : Obj := (Obj.mk (Value.type "dict") Option.none (Data.dict (List.toArray [(DictEntry.mk (PyData.keyHash E.P (Str.ofString "s")) (Value.str (Str.ofString "s") 999) (Value.str (Str.ofString "ets") 991)), (DictEntry.mk (PyData.keyHash E.P (Str.ofString "substring_i")) (Value.str (Str.ofString "substring_i") 1001) (Value.int (16 : Int) 992)), (DictEntry.mk (PyData.keyHash E.P (Str.ofString "result")) (Value.str (Str.ofString "result") 1003) (Value.int (1 : Int) 993))]) 3) (List.toArray []))
noncomputable def o538 (E : Wd) : Obj := (Obj.mk (Value.ref 218) (Option.some 359) Data.plain (List.toArray []))
noncomputable def o539 (E : Wd) : Obj := (Obj.mk (Value.type "frame") Option.none (Data.dict (List.toArray [(DictEntry.mk (PyData.keyHash E.P (Str.ofString "self")) (Value.str (Str.ofString "self") 994) (Value.ref 360)), (DictEntry.mk (PyData.keyHash E.P (Str.ofString "s")) (Value.str (Str.ofString "s") 995) (Value.str (Str.ofString "ets") 991)), (DictEntry.mk (PyData.keyHash E.P (Str.ofString "substring_i")) (Value.str (Str.ofString "substring_i") 996) (Value.int (16 : Int) 992)), (DictEntry.mk (PyData.keyHash E.P (Str.ofString "result")) (Value.str (Str.ofString "result") 997) (Value.int (1 : Int) 993))]) 4) (List.toArray []))
noncomputable def o540 (E : Wd) : Obj := (Obj.mk (Value.type "dict") Option.none (Data.dict (List.toArray [(DictEntry.mk (PyData.keyHash E.P (Str.ofString "s")) (Value.str (Str.ofString "s") 1012) (Value.str (Str.ofString "erets") 1004)), (DictEntry.mk (PyData.keyHash E.P (Str.ofString "substring_i")) (Value.str (Str.ofString "substring_i") 1014) (Value.int (28 : Int) 1005)), (DictEntry.mk (PyData.keyHash E.P (Str.ofString "result")) (Value.str (Str.ofString "result") 1016) (Value.int (1 : Int) 1006))]) 3) (List.toArray []))
noncomputable def o541 (E : Wd) : Obj := (Obj.mk (Value.ref 218) (Option.some 362) Data.plain (List.toArray []))
noncomputable def o542 (E : Wd) : Obj := (Obj.mk (Value.type "frame") Option.none (Data.dict (List.toArray [(DictEntry.mk (PyData.keyHash E.P (Str.ofString "self")) (Value.str (Str.ofString "self") 1007) (Value.ref 363)), (DictEntry.mk (PyData.keyHash E.P (Str.ofString "s")) (Value.str (Str.ofString "s") 1008) (Value.str (Str.ofString "erets") 1004)), (DictEntry.mk (PyData.keyHash E.P (Str.ofString "substring_i")) (Value.str (Str.ofString "substring_i") 1009) (Value.int (28 : Int) 1005)), (DictEntry.mk (PyData.keyHash E.P (Str.ofString "result")) (Value.str (Str.ofString "result") 1010) (Value.int (1 : Int) 1006))]) 4) (List.toArray []))
noncomputable def o543 (E : Wd) : Obj := (Obj.mk (Value.type "dict") Option.none (Data.dict (List.toArray [(DictEntry.mk (PyData.keyHash E.P (Str.ofString "s")) (Value.str (Str.ofString "s") 1026) (Value.str (Str.ofString "et") 1017)), (DictEntry.mk (PyData.keyHash E.P (Str.ofString "substring_i")) (Value.str (Str.ofString "substring_i") 1028) (Value.int (-(1 : Int)) 1019)), (DictEntry.mk (PyData.keyHash E.P (Str.ofString "result")) (Value.str (Str.ofString "result") 1030) (Value.int (1 : Int) 1020))]) 3) (List.toArray []))
noncomputable def o544 (E : Wd) : Obj := (Obj.mk (Value.ref 218) (Option.some 365) Data.plain (List.toArray []))
noncomputable def o545 (E : Wd) : Obj := (Obj.mk (Value.type "frame") Option.none (Data.dict (List.toArray [(DictEntry.mk (PyData.keyHash E.P (Str.ofString "self")) (Value.str (Str.ofString "self") 1021) (Value.ref 366)), (DictEntry.mk (PyData.keyHash E.P (Str.ofString "s")) (Value.str (Str.ofString "s") 1022) (Value.str (Str.ofString "et") 1017)), (DictEntry.mk (PyData.keyHash E.P (Str.ofString "substring_i")) (Value.str (Str.ofString "substring_i") 1023) (Value.int (-(1 : Int)) 1019)), (DictEntry.mk (PyData.keyHash E.P (Str.ofString "result")) (Value.str (Str.ofString "result") 1024) (Value.int (1 : Int) 1020))]) 4) (List.toArray []))
noncomputable def o546 (E : Wd) : Obj := (Obj.mk (Value.type "dict") Option.none (Data.dict (List.toArray [(DictEntry.mk (PyData.keyHash E.P (Str.ofString "s")) (Value.str (Str.ofString "s") 1039) (Value.str (Str.ofString "eret") 1031)), (DictEntry.mk (PyData.keyHash E.P (Str.ofString "substring_i")) (Value.str (Str.ofString "substring_i") 1041) (Value.int (30 : Int) 1032)), (DictEntry.mk (PyData.keyHash E.P (Str.ofString "result")) (Value.str (Str.ofString "result") 1043) (Value.int (1 : Int) 1033))]) 3) (List.toArray []))
noncomputable def o547 (E : Wd) : Obj := (Obj.mk (Value.ref 218) (Option.some 368) Data.plain (List.toArray []))
noncomputable def o548 (E : Wd) : Obj := (Obj.mk (Value.type "frame") Option.none (Data.dict (List.toArray [(DictEntry.mk (PyData.keyHash E.P (Str.ofString "self")) (Value.str (Str.ofString "self") 1034) (Value.ref 369)), (DictEntry.mk (PyData.keyHash E.P (Str.ofString "s")) (Value.str (Str.ofString "s") 1035) (Value.str (Str.ofString "eret") 1031)), (DictEntry.mk (PyData.keyHash E.P (Str.ofString "substring_i")) (Value.str (Str.ofString "substring_i") 1036) (Value.int (30 : Int) 1032)), (DictEntry.mk (PyData.keyHash E.P (Str.ofString "result")) (Value.str (Str.ofString "result") 1037) (Value.int (1 : Int) 1033))]) 4) (List.toArray []))
noncomputable def o549 (E : Wd) : Obj := (Obj.mk (Value.type "list") Option.none (Data.seq (List.toArray [(Value.ref 276), (Value.ref 279), (Value.ref 282), (Value.ref 285), (Value.ref 288), (Value.ref 291), (Value.ref 294), (Value.ref 297), (Value.ref 300), (Value.ref 303), (Value.ref 306), (Value.ref 309), (Value.ref 312), (Value.ref 315), (Value.ref 318), (Value.ref 321), (Value.ref 324), (Value.ref 327), (Value.ref 330), (Value.ref 333), (Value.ref 336), (Value.ref 339), (Value.ref 342), (Value.ref 345), (Value.ref 348), (Value.ref 351), (Value.ref 354), (Value.ref 357), (Value.ref 360), (Value.ref 363), (Value.ref 366), (Value.ref 369)]) 0) (List.toArray []))
noncomputable def o550 (E : Wd) : Obj := (Obj.mk (Value.type "dict") Option.none (Data.dict (List.toArray [(DictEntry.mk (PyData.keyHash E.P (Str.ofString "s")) (Value.str (Str.ofString "s") 1055) (Value.str (Str.ofString "gd") 1045)), (DictEntry.mk (PyData.keyHash E.P (Str.ofString "substring_i")) (Value.str (Str.ofString "substring_i") 1057) (Value.int (-(1 : Int)) 1047)), (DictEntry.mk (PyData.keyHash E.P (Str.ofString "result")) (Value.str (Str.ofString "result") 1059) (Value.int (-(1 : Int)) 1049))]) 3) (List.toArray []))
noncomputable def o551 (E : Wd) : Obj := (Obj.mk (Value.ref 218) (Option.some 372) Data.plain (List.toArray []))
noncomputable def o552 (E : Wd) : Obj := (Obj.mk (Value.type "frame") Option.none (Data.dict (List.toArray [(DictEntry.mk (PyData.keyHash E.P (Str.ofString "self")) (Value.str (Str.ofString "self") 1050) (Value.ref 373)), (DictEntry.mk (PyData.keyHash E.P (Str.ofString "s")) (Value.str (Str.ofString "s") 1051) (Value.str (Str.ofString "gd") 1045)), (DictEntry.mk (PyData.keyHash E.P (Str.ofString "substring_i")) (Value.str (Str.ofString "substring_i") 1052) (Value.int (-(1 : Int)) 1047)), (DictEntry.mk (PyData.keyHash E.P (Str.ofString "result")) (Value.str (Str.ofString "result") 1053) (Value.int (-(1 : Int)) 1049))]) 4) (List.toArray []))
noncomputable def o553 (E : Wd) : Obj := (Obj.mk (Value.type "dict") Option.none (Data.dict (List.toArray [(DictEntry.mk (PyData.keyHash E.P (Str.ofString "s")) (Value.str (Str.ofString "s") 1070) (Value.str (Str.ofString "dt") 1060)), (DictEntry.mk (PyData.keyHash E.P (Str.ofString "substring_i")) (Value.str (Str.ofString "substring_i") 1072) (Value.int (-(1 : Int)) 1062)), (DictEntry.mk (PyData.keyHash E.P (Str.ofString "result")) (Value.str (Str.ofString "result") 1074) (Value.int (-(1 : Int)) 1064))]) 3) (List.toArray []))
noncomputable def o554 (E : Wd) : Obj := (Obj.mk (Value.ref 218) (Option.some 375) Data.plain (List.toArray []))
noncomputable def o555 (E : Wd) : Obj := (Obj.mk (Value.type "frame") Option.none (Data.dict (List.toArray [(DictEntry.mk (PyData.keyHash E.P (Str.ofString "self")) (Value.str (Str.ofString "self") 1065) (Value.ref 376)), (DictEntry.mk (PyData.keyHash E.P (Str.ofString "s")) (Value.str (Str.ofString "s") 1066) (Value.str (Str.ofString "dt") 1060)), (DictEntry.mk (PyData.keyHash E.P (Str.ofString "substring_i")) (Value.str (Str.ofString "substring_i") 1067) (Value.int (-(1 : Int)) 1062)), (DictEntry.mk (PyData.keyHash E.P (Str.ofString "result")) (Value.str (Str.ofString "result") 1068) (Value.int (-(1 : Int)) 1064))]) 4) (List.toArray []))
noncomputable def o556 (E : Wd) : Obj := (Obj.mk (Value.type "dict") Option.none (Data.dict (List.toArray [(DictEntry.mk (PyData.keyHash E.P (Str.ofString "s")) (Value.str (Str.ofString "s") 1085) (Value.str (Str.ofString "gt") 1075)), (DictEntry.mk (PyData.keyHash E.P (Str.ofString "substring_i")) (Value.str (Str.ofString "substring_i") 1087) (Value.int (-(1 : Int)) 1077)), (DictEntry.mk (PyData.keyHash E.P (Str.ofString "result")) (Value.str (Str.ofString "result") 1089) (Value.int (-(1 : Int)) 1079))]) 3) (List.toArray []))
noncomputable def o557 (E : Wd) : Obj := (Obj.mk (Value.ref 218) (Option.some 378) Data.plain (List.toArray []))
noncomputable def o558 (E : Wd) : Obj := (Obj.mk (Value.type "frame") Option.none (Data.dict (List.toArray [(DictEntry.mk (PyData.keyHash E.P (Str.ofString "self")) (Value.str (Str.ofString "self") 1080) (Value.ref 379)), (DictEntry.mk (PyData.keyHash E.P (Str.ofString "s")) (Value.str (Str.ofString "s") 1081) (Value.str (Str.ofString "gt") 1075)), (DictEntry.mk (PyData.keyHash E.P (Str.ofString "substring_i")) (Value.str (Str.ofString "substring_i") 1082) (Value.int (-(1 : Int)) 1077)), (DictEntry.mk (PyData.keyHash E.P (Str.ofString "result")) (Value.str (Str.ofString "result") 1083) (Value.int (-(1 : Int)) 1079))]) 4) (List.toArray []))
noncomputable def o559 (E : Wd) : Obj := (Obj.mk (Value.type "dict") Option.none (Data.dict (List.toArray [(DictEntry.mk (PyData.keyHash E.P (Str.ofString "s")) (Value.str (Str.ofString "s") 1100) (Value.str (Str.ofString "kt") 1090)), (DictEntry.mk (PyData.keyHash E.P (Str.ofString "substring_i")) (Value.str (Str.ofString "substring_i") 1102) (Value.int (-(1 : Int)) 1092)), (DictEntry.mk (PyData.keyHash E.P (Str.ofString "result")) (Value.str (Str.ofString "result") 1104) (Value.int (-(1 : Int)) 1094))]) 3) (List.toArray []))
noncomputable def o560 (E : Wd) : Obj := (Obj.mk (Value.ref 218) (Option.some 381) Data.plain (List.toArray []))
noncomputable def o561 (E : Wd) : Obj := (Obj.mk (Value.type "frame") Option.none (Data.dict (List.toArray [(DictEntry.mk (PyData.keyHash E.P (Str.ofString "self")) (Value.str (Str.ofString "self") 1095) (Value.ref 382)), (DictEntry.mk (PyData.keyHash E.P (Str.ofString "s")) (Value.str (Str.ofString "s") 1096) (Value.str (Str.ofString "kt") 1090)), (DictEntry.mk (PyData.keyHash E.P (Str.ofString "substring_i")) (Value.str (Str.ofString "substring_i") 1097) (Value.int (-(1 : Int)) 1092)), (DictEntry.mk (PyData.keyHash E.P (Str.ofString "result")) (Value.str (Str.ofString "result") 1098) (Value.int (-(1 : Int)) 1094))]) 4) (List.toArray []))
noncomputable def o562 (E : Wd) : Obj := (Obj.mk (Value.type "list") Option.none (Data.seq (List.toArray [(Value.ref 373), (Value.ref 376), (Value.ref 379), (Value.ref 382)]) 0) (List.toArray []))
noncomputable def o563 (E : Wd) : Obj := (Obj.mk (Value.type "dict") Option.none (Data.dict (List.toArray [(DictEntry.mk (PyData.keyHash E.P (Str.ofString "s")) (Value.str (Str.ofString "s") 1115) (Value.str (Str.ofString "ig") 1106)), (DictEntry.mk (PyData.keyHash E.P (Str.ofString "substring_i")) (Value.str (Str.ofString "substring_i") 1117) (Value.int (-(1 : Int)) 1108)), (DictEntry.mk (PyData.keyHash E.P (Str.ofString "result")) (Value.str (Str.ofString "result") 1119) (Value.int (1 : Int) 1109))]) 3) (List.toArray []))
noncomputable def o564 (E : Wd) : Obj := (Obj.mk (Value.ref 218) (Option.some 385) Data.plain (List.toArray []))
noncomputable def o565 (E : Wd) : Obj := (Obj.mk (Value.type "frame") Option.none (Data.dict (List.toArray [(DictEntry.mk (PyData.keyHash E.P (Str.ofString "self")) (Value.str (Str.ofString "self") 1110) (Value.ref 386)), (DictEntry.mk (PyData.keyHash E.P (Str.ofString "s")) (Value.str (Str.ofString "s") 1111) (Value.str (Str.ofString "ig") 1106)), (DictEntry.mk (PyData.keyHash E.P (Str.ofString "substring_i")) (Value.str (Str.ofString "substring_i") 1112) (Value.int (-(1 : Int)) 1108)), (DictEntry.mk (PyData.keyHash E.P (Str.ofString "result")) (Value.str (Str.ofString "result") 1113) (Value.int (1 : Int) 1109))]) 4) (List.toArray []))
noncomputable def o566 (E : Wd) : Obj := (Obj.mk (Value.type "dict") Option.none (Data.dict (List.toArray [(DictEntry.mk (PyData.keyHash E.P (Str.ofString "s")) (Value.str (Str.ofString "s") 1128) (Value.str (Str.ofString "lig") 1120)), (DictEntry.mk (PyData.keyHash E.P (Str.ofString "substring_i")) (Value.str (Str.ofString "substring_i") 1130) (Value.int (0 : Int) 1121)), (DictEntry.mk (PyData.keyHash E.P (Str.ofString "result")) (Value.str (Str.ofString "result") 1132) (Value.int (1 : Int) 1122))]) 3) (List.toArray []))
noncomputable def o567 (E : Wd) : Obj := (Obj.mk (Value.ref 218) (Option.some 388) Data.plain (List.toArray []))
noncomputable def o568 (E : Wd) : Obj := (Obj.mk (Value.type "frame") Option.none (Data.dict (List.toArray [(DictEntry.mk (PyData.keyHash E.P (Str.ofString "self")) (Value.str (Str.ofString "self") 1123) (Value.ref 389)), (DictEntry.mk (PyData.keyHash E.P (Str.ofString "s")) (Value.str (Str.ofString "s") 1124) (Value.str (Str.ofString "lig") 1120)), (DictEntry.mk (PyData.keyHash E.P (Str.ofString "substring_i")) (Value.str (Str.ofString "substring_i") 1125) (Value.int (0 : Int) 1121)), (DictEntry.mk (PyData.keyHash E.P (Str.ofString "result")) (Value.str (Str.ofString "result") 1126) (Value.int (1 : Int) 1122))]) 4) (List.toArray []))
noncomputable def o569 (E : Wd) : Obj := (Obj.mk (Value.type "dict") Option.none (Data.dict (List.toArray [(DictEntry.mk (PyData.keyHash E.P (Str.ofString "s")) (Value.str (Str.ofString "s") 1141) (Value.str (Str.ofString "elig") 1133)), (DictEntry.mk (PyData.keyHash E.P (Str.ofString "substring_i")) (Value.str (Str.ofString "substring_i") 1143) (Value.int (1 : Int) 1134)), (DictEntry.mk (PyData.keyHash E.P (Str.ofString "result")) (Value.str (Str.ofString "result") 1145) (Value.int (1 : Int) 1135))]) 3) (List.toArray []))
noncomputable def o570 (E : Wd) : Obj := (Obj.mk (Value.ref 218) (Option.some 391) Data.plain (List.toArray []))
noncomputable def o571 (E : Wd) : Obj := (Obj.mk (Value.type "frame") Option.none (Data.dict (List.toArray [(DictEntry.mk (PyData.keyHash E.P (Str.ofString "self")) (Value.str (Str.ofString "self") 1136) (Value.ref 392)), (DictEntry.mk (PyData.keyHash E.P (Str.ofString "s")) (Value.str (Str.ofString "s") 1137) (Value.str (Str.ofString "elig") 1133)), (DictEntry.mk (PyData.keyHash E.P (Str.ofString "substring_i")) (Value.str (Str.ofString "substring_i") 1138) (Value.int (1 : Int) 1134)), (DictEntry.mk (PyData.keyHash E.P (Str.ofString "result")) (Value.str (Str.ofString "result") 1139) (Value.int (1 : Int) 1135))]) 4) (List.toArray []))
noncomputable def o572 (E : Wd) : Obj := (Obj.mk (Value.type "dict") Option.none (Data.dict (List.toArray [(DictEntry.mk (PyData.keyHash E.P (Str.ofString "s")) (Value.str (Str.ofString "s") 1155) (Value.str (Str.ofString "els") 1146)), (DictEntry.mk (PyData.keyHash E.P (Str.ofString "substring_i")) (Value.str (Str.ofString "substring_i") 1157) (Value.int (-(1 : Int)) 1148)), (DictEntry.mk (PyData.keyHash E.P (Str.ofString "result")) (Value.str (Str.ofString "result") 1159) (Value.int (1 : Int) 1149))]) 3) (List.toArray []))
noncomputable def o573 (E : Wd) : Obj := (Obj.mk (Value.ref 218) (Option.some 394) Data.plain (List.toArray []))
noncomputable def o574 (E : Wd) : Obj := (Obj.mk (Value.type "frame") Option.none (Data.dict (List.toArray [(DictEntry.mk (PyData.keyHash E.P (Str.ofString "self")) (Value.str (Str.ofString "self") 1150) (Value.ref 395)), (DictEntry.mk (PyData.keyHash E.P (Str.ofString "s")) (Value.str (Str.ofString "s") 1151) (Value.str (Str.ofString "els") 1146)), (DictEntry.mk (PyData.keyHash E.P (Str.ofString "substring_i")) (Value.str (Str.ofString "substring_i") 1152) (Value.int (-(1 : Int)) 1148)), (DictEntry.mk (PyData.keyHash E.P (Str.ofString "result")) (Value.str (Str.ofString "result") 1153) (Value.int (1 : Int) 1149))]) 4) (List.toArray []))
noncomputable def o575 (E : Wd) : Obj := (Obj.mk (Value.type "dict") Option.none (Data.dict (List.toArray [(DictEntry.mk (PyData.keyHash E.P (Str.ofString "s")) (Value.str (Str.ofString "s") 1169) (Value.str (Str.ofString "løst") 1160)), (DictEntry.mk (PyData.keyHash E.P (Str.ofString "substring_i")) (Value.str (Str.ofString "substring_i") 1171) (Value.int (-(1 : Int)) 1162)), (DictEntry.mk (PyData.keyHash E.P (Str.ofString "result")) (Value.str (Str.ofString "result") 1173) (Value.int (2 : Int) 1163))]) 3) (List.toArray []))
noncomputable def o576 (E : Wd) : Obj := (Obj.mk (Value.ref 218) (Option.some 397) Data.plain (List.toArray []))
noncomputable def o577 (E : Wd) : Obj := (Obj.mk (Value.type "frame") Option.none (Data.dict (List.toArray [(DictEntry.mk (PyData.keyHash E.P (Str.ofString "self")) (Value.str (Str.ofString "self") 1164) (Value.ref 398)), (DictEntry.mk (PyData.keyHash E.P (Str.ofString "s")) (Value.str (Str.ofString "s") 1165) (Value.str (Str.ofString "løst") 1160)), (DictEntry.mk (PyData.keyHash E.P (Str.ofString "substring_i")) (Value.str (Str.ofString "substring_i") 1166) (Value.int (-(1 : Int)) 1162)), (DictEntry.mk (PyData.keyHash E.P (Str.ofString "result")) (Value.str (Str.ofString "result") 1167) (Value.int (2 : Int) 1163))]) 4) (List.toArray []))
noncomputable def o578 (E : Wd) : Obj := (Obj.mk (Value.type "list") Option.none (Data.seq (List.toArray [(Value.ref 386), (Value.ref 389), (Value.ref 392), (Value.ref 395), (Value.ref 398)]) 0) (List.toArray []))
noncomputable def o579 (E : Wd) : Obj := (Obj.mk (Value.type "tuple") Option.none (Data.seq (List.toArray [(Value.str (Str.ofString "I_p1") 1175), (Value.str (Str.ofString "bra") 1176), (Value.str (Str.ofString "cursor") 1177), (Value.str (Str.ofString "ket") 1178), (Value.str (Str.ofString "limit_backward") 1179)]) 0) (List.toArray []))
noncomputable def o580 (E : Wd) : Obj := (Obj.mk (Value.type "dict") Option.none (Data.dict (List.toArray [(DictEntry.mk (PyData.keyHash E.P (Str.ofString "__module__")) (Value.str (Str.ofString "__module__") 468) (Value.str (Str.ofString "snowballstemmer.danish_stemmer") 459)), (DictEntry.mk (PyData.keyHash E.P (Str.ofString "__firstlineno__")) (Value.str (Str.ofString "__firstlineno__") 472) (Value.int (167 : Int) 471)), (DictEntry.mk (PyData.keyHash E.P (Str.ofString "g_undouble_c")) (Value.str (Str.ofString "g_undouble_c") 497) (Value.ref 230)), (DictEntry.mk (PyData.keyHash E.P (Str.ofString "g_v")) (Value.str (Str.ofString "g_v") 516) (Value.ref 231)), (DictEntry.mk (PyData.keyHash E.P (Str.ofString "g_s_ending")) (Value.str (Str.ofString "g_s_ending") 559) (Value.ref 232)), (DictEntry.mk (PyData.keyHash E.P (Str.ofString "I_p1")) (Value.str (Str.ofString "I_p1") 561) (Value.int (0 : Int) 560)), (DictEntry.mk (PyData.keyHash E.P (Str.ofString "r_mark_regions")) (Value.str (Str.ofString "r_mark_regions") 571) (Value.ref 239)), (DictEntry.mk (PyData.keyHash E.P (Str.ofString "r_main_suffix")) (Value.str (Str.ofString "r_main_suffix") 580) (Value.ref 246)), (DictEntry.mk (PyData.keyHash E.P (Str.ofString "r_consonant_pair")) (Value.str (Str.ofString "r_consonant_pair") 589) (Value.ref 253)), (DictEntry.mk (PyData.keyHash E.P (Str.ofString "r_other_suffix")) (Value.str (Str.ofString "r_other_suffix") 600) (Value.ref 260)), (DictEntry.mk (PyData.keyHash E.P (Str.ofString "r_undouble")) (Value.str (Str.ofString "r_undouble") 609) (Value.ref 267)), (DictEntry.mk (PyData.keyHash E.P (Str.ofString "_stem")) (Value.str (Str.ofString "_stem") 620) (Value.ref 274)), (DictEntry.mk (PyData.keyHash E.P (Str.ofString "a_0")) (Value.str (Str.ofString "a_0") 1044) (Value.ref 371)), (DictEntry.mk (PyData.keyHash E.P (Str.ofString "a_1")) (Value.str (Str.ofString "a_1") 1105) (Value.ref 384)), (DictEntry.mk (PyData.keyHash E.P (Str.ofString "a_2")) (Value.str (Str.ofString "a_2") 1174) (Value.ref 400)), (DictEntry.mk (PyData.keyHash E.P (Str.ofString "__static_attributes__")) (Value.str (Str.ofString "__static_attributes__") 1180) (Value.ref 401)), (DictEntry.mk (PyData.keyHash E.P (Str.ofString "__doc__")) (Value.str (Str.ofString "__doc__") 1181) Value.none)]) 2) (List.toArray []))
noncomputable def o581 (E : Wd) : Obj := (Obj.mk (Value.type "type") Option.none (Data.cls (ClassData.mk (Str.ofString "DanishStemmer") [(Value.ref 197)] [(Value.ref 403), (Value.ref 197), (Value.type "object")] 402 (Str.ofString "DanishStemmer") Bool.true [] [] Bool.false Option.none Bool.false)) (List.toArray [(Option.some (Value.ref 223)), Option.none, (Option.some (Value.str (Str.ofString "DanishStemmer") 461)), (Option.some (Value.str (Str.ofString "DanishStemmer") 469)), (Option.some (Value.builtin "object.__new__")), (Option.some (Value.bool Bool.true))]))
noncomputable def o582 (E : Wd) : Obj := (Obj.mk (Value.type "super") Option.none (Data.fields (List.toArray [(Value.ref 403), (Value.ref 403), (Value.ref 403)])) (List.toArray []))
noncomputable def o583 (E : Wd) : Obj := (Obj.mk (Value.type "builtin_function_or_method") Option.none (Data.fields (List.toArray [(Value.builtin "object.__init_subclass__"), (Value.ref 403)])) (List.toArray []))
noncomputable def n584 (E : Wd) : BT := BT.node (o561 E) BT.nil BT.nil
noncomputable def n585 (E : Wd) : BT := BT.node (boot_o_7 E.P) (n9 E) (n584 E)
noncomputable def n586 (E : Wd) : BT := BT.node (o497 E) BT.nil BT.nil
noncomputable def n587 (E : Wd) : BT := BT.node (boot_o_8 E.P) (n586 E) BT.nil
noncomputable def n588 (E : Wd) : BT := BT.node (o46 E) (n585 E) (n587 E)
noncomputable def n589 (E : Wd) : BT := BT.node (o465 E) BT.nil BT.nil
noncomputable def n590 (E : Wd) : BT := BT.node (o100 E) (n589 E) BT.nil
noncomputable def n591 (E : Wd) : BT := BT.node (o529 E) BT.nil BT.nil
noncomputable def n592 (E : Wd) : BT := BT.node (o331 E) (n591 E) BT.nil
noncomputable def n593 (E : Wd) : BT := BT.node (boot_o_7 E.P) (n590 E) (n592 E)
noncomputable def n594 (E : Wd) : BT := BT.node (o27 E) (n588 E) (n593 E)
noncomputable def n595 (E : Wd) : BT := BT.node (o577 E) BT.nil BT.nil
noncomputable def n596 (E : Wd) : BT := BT.node (o91 E) (n3 E) (n595 E)
noncomputable def n597 (E : Wd) : BT := BT.node (o513 E) BT.nil BT.nil
noncomputable def n598 (E : Wd) : BT := BT.node (o131 E) (n597 E) BT.nil
noncomputable def n599 (E : Wd) : BT := BT.node (boot_o_8 E.P) (n596 E) (n598 E)
noncomputable def n600 (E : Wd) : BT := BT.node (o481 E) BT.nil BT.nil
noncomputable def n601 (E : Wd) : BT := BT.node (o110 E) (n600 E) BT.nil
noncomputable def n602 (E : Wd) : BT := BT.node (o545 E) BT.nil BT.nil
noncomputable def n603 (E : Wd) : BT := BT.node (o432 E) (n602 E) BT.nil
noncomputable def n604 (E : Wd) : BT := BT.node (o73 E) (n601 E) (n603 E)
noncomputable def n605 (E : Wd) : BT := BT.node (o36 E) (n599 E) (n604 E)
noncomputable def n606 (E : Wd) : BT := BT.node (boot_o_7 E.P) (n594 E) (n605 E)
noncomputable def n607 (E : Wd) : BT := BT.node (o445 E) BT.nil BT.nil
noncomputable def n608 (E : Wd) : BT := BT.node (o569 E) BT.nil BT.nil
noncomputable def n609 (E : Wd) : BT := BT.node (boot_o_8 E.P) (n607 E) (n608 E)
noncomputable def n610 (E : Wd) : BT := BT.node (o505 E) BT.nil BT.nil
noncomputable def n611 (E : Wd) : BT := BT.node (o126 E) (n610 E) BT.nil
noncomputable def n612 (E : Wd) : BT := BT.node (boot_o_7 E.P) (n609 E) (n611 E)
noncomputable def n613 (E : Wd) : BT := BT.node (o473 E) BT.nil BT.nil
noncomputable def n614 (E : Wd) : BT := BT.node (o105 E) (n613 E) BT.nil
noncomputable def n615 (E : Wd) : BT := BT.node (o537 E) BT.nil BT.nil
noncomputable def n616 (E : Wd) : BT := BT.node (setO E.Y) (n615 E) BT.nil
noncomputable def n617 (E : Wd) : BT := BT.node (o68 E) (n614 E) (n616 E)
noncomputable def n618 (E : Wd) : BT := BT.node (boot_o_7 E.P) (n612 E) (n617 E)
noncomputable def n619 (E : Wd) : BT := BT.node (o457 E) BT.nil BT.nil
noncomputable def n620 (E : Wd) : BT := BT.node (boot_o_7 E.P) (n619 E) BT.nil
noncomputable def n621 (E : Wd) : BT := BT.node (o521 E) BT.nil BT.nil
noncomputable def n622 (E : Wd) : BT := BT.node (o136 E) (n621 E) BT.nil
noncomputable def n623 (E : Wd) : BT := BT.node (o59 E) (n620 E) (n622 E)
noncomputable def n624 (E : Wd) : BT := BT.node (o489 E) BT.nil BT.nil
noncomputable def n625 (E : Wd) : BT := BT.node (boot_o_7 E.P) (n624 E) BT.nil
noncomputable def n626 (E : Wd) : BT := BT.node (o553 E) BT.nil BT.nil
noncomputable def n627 (E : Wd) : BT := BT.node (boot_o_7 E.P) (n626 E) BT.nil
noncomputable def n628 (E : Wd) : BT := BT.node (o78 E) (n625 E) (n627 E)
noncomputable def n629 (E : Wd) : BT := BT.node (o41 E) (n623 E) (n628 E)
noncomputable def n630 (E : Wd) : BT := BT.node (o22 E) (n618 E) (n629 E)
noncomputable def n631 (E : Wd) : BT := BT.node (boot_o_7 E.P) (n606 E) (n630 E)
noncomputable def n632 (E : Wd) : BT := BT.node (o443 E) BT.nil BT.nil
noncomputable def n633 (E : Wd) : BT := BT.node (o565 E) BT.nil BT.nil
noncomputable def n634 (E : Wd) : BT := BT.node (o84 E) (n632 E) (n633 E)
noncomputable def n635 (E : Wd) : BT := BT.node (o501 E) BT.nil BT.nil
noncomputable def n636 (E : Wd) : BT := BT.node (o122 E) (n635 E) BT.nil
noncomputable def n637 (E : Wd) : BT := BT.node (boot_o_7 E.P) (n634 E) (n636 E)
noncomputable def n638 (E : Wd) : BT := BT.node (o469 E) BT.nil BT.nil
noncomputable def n639 (E : Wd) : BT := BT.node (boot_o_8 E.P) (n638 E) BT.nil
noncomputable def n640 (E : Wd) : BT := BT.node (o533 E) BT.nil BT.nil
noncomputable def n641 (E : Wd) : BT := BT.node (o428 E) (n640 E) BT.nil
noncomputable def n642 (E : Wd) : BT := BT.node (boot_o_7 E.P) (n639 E) (n641 E)
noncomputable def n643 (E : Wd) : BT := BT.node (o30 E) (n637 E) (n642 E)
noncomputable def n644 (E : Wd) : BT := BT.node (o453 E) BT.nil BT.nil
noncomputable def n645 (E : Wd) : BT := BT.node (o581 E) BT.nil BT.nil
noncomputable def n646 (E : Wd) : BT := BT.node (o94 E) (n644 E) (n645 E)
noncomputable def n647 (E : Wd) : BT := BT.node (o517 E) BT.nil BT.nil
noncomputable def n648 (E : Wd) : BT := BT.node (o133 E) (n647 E) BT.nil
noncomputable def n649 (E : Wd) : BT := BT.node (o57 E) (n646 E) (n648 E)
noncomputable def n650 (E : Wd) : BT := BT.node (o485 E) BT.nil BT.nil
noncomputable def n651 (E : Wd) : BT := BT.node (boot_o_7 E.P) (n650 E) BT.nil
noncomputable def n652 (E : Wd) : BT := BT.node (o549 E) BT.nil BT.nil
noncomputable def n653 (E : Wd) : BT := BT.node (boot_o_7 E.P) (n652 E) BT.nil
noncomputable def n654 (E : Wd) : BT := BT.node (o75 E) (n651 E) (n653 E)
noncomputable def n655 (E : Wd) : BT := BT.node (boot_o_8 E.P) (n649 E) (n654 E)
noncomputable def n656 (E : Wd) : BT := BT.node (o19 E) (n643 E) (n655 E)
noncomputable def n657 (E : Wd) : BT := BT.node (o448 E) BT.nil BT.nil
noncomputable def n658 (E : Wd) : BT := BT.node (o573 E) BT.nil BT.nil
noncomputable def n659 (E : Wd) : BT := BT.node (o89 E) (n657 E) (n658 E)
noncomputable def n660 (E : Wd) : BT := BT.node (o509 E) BT.nil BT.nil
noncomputable def n661 (E : Wd) : BT := BT.node (o22 E) (n660 E) BT.nil
noncomputable def n662 (E : Wd) : BT := BT.node (o52 E) (n659 E) (n661 E)
noncomputable def n663 (E : Wd) : BT := BT.node (o477 E) BT.nil BT.nil
noncomputable def n664 (E : Wd) : BT := BT.node (o107 E) (n663 E) BT.nil
noncomputable def n665 (E : Wd) : BT := BT.node (o541 E) BT.nil BT.nil
noncomputable def n666 (E : Wd) : BT := BT.node (o429 E) (n665 E) BT.nil
noncomputable def n667 (E : Wd) : BT := BT.node (boot_o_8 E.P) (n664 E) (n666 E)
noncomputable def n668 (E : Wd) : BT := BT.node (boot_o_7 E.P) (n662 E) (n667 E)
noncomputable def n669 (E : Wd) : BT := BT.node (o461 E) BT.nil BT.nil
noncomputable def n670 (E : Wd) : BT := BT.node (boot_o_7 E.P) (n669 E) BT.nil
noncomputable def n671 (E : Wd) : BT := BT.node (o525 E) BT.nil BT.nil
noncomputable def n672 (E : Wd) : BT := BT.node (o140 E) (n671 E) BT.nil
noncomputable def n673 (E : Wd) : BT := BT.node (o62 E) (n670 E) (n672 E)
noncomputable def n674 (E : Wd) : BT := BT.node (o493 E) BT.nil BT.nil
noncomputable def n675 (E : Wd) : BT := BT.node (o116 E) (n674 E) BT.nil
noncomputable def n676 (E : Wd) : BT := BT.node (o557 E) BT.nil BT.nil
noncomputable def n677 (E : Wd) : BT := BT.node (o438 E) (n676 E) BT.nil
noncomputable def n678 (E : Wd) : BT := BT.node (boot_o_7 E.P) (n675 E) (n677 E)
noncomputable def n679 (E : Wd) : BT := BT.node (o43 E) (n673 E) (n678 E)
noncomputable def n680 (E : Wd) : BT := BT.node (o25 E) (n668 E) (n679 E)
noncomputable def n681 (E : Wd) : BT := BT.node (boot_o_7 E.P) (n656 E) (n680 E)
noncomputable def n682 (E : Wd) : BT := BT.node (o425 E) (n631 E) (n681 E)
noncomputable def n683 (E : Wd) : BT := BT.node (o563 E) BT.nil BT.nil
noncomputable def n684 (E : Wd) : BT := BT.node (o83 E) (n3 E) (n683 E)
noncomputable def n685 (E : Wd) : BT := BT.node (o499 E) BT.nil BT.nil
noncomputable def n686 (E : Wd) : BT := BT.node (o120 E) (n685 E) BT.nil
noncomputable def n687 (E : Wd) : BT := BT.node (boot_o_8 E.P) (n684 E) (n686 E)
noncomputable def n688 (E : Wd) : BT := BT.node (o467 E) BT.nil BT.nil
noncomputable def n689 (E : Wd) : BT := BT.node (o102 E) (n688 E) BT.nil
noncomputable def n690 (E : Wd) : BT := BT.node (o531 E) BT.nil BT.nil
noncomputable def n691 (E : Wd) : BT := BT.node (o427 E) (n690 E) BT.nil
noncomputable def n692 (E : Wd) : BT := BT.node (o65 E) (n689 E) (n691 E)
noncomputable def n693 (E : Wd) : BT := BT.node (o28 E) (n687 E) (n692 E)
noncomputable def n694 (E : Wd) : BT := BT.node (o451 E) BT.nil BT.nil
noncomputable def n695 (E : Wd) : BT := BT.node (o579 E) BT.nil BT.nil
noncomputable def n696 (E : Wd) : BT := BT.node (o92 E) (n694 E) (n695 E)
noncomputable def n697 (E : Wd) : BT := BT.node (o515 E) BT.nil BT.nil
noncomputable def n698 (E : Wd) : BT := BT.node (boot_o_7 E.P) (n697 E) BT.nil
noncomputable def n699 (E : Wd) : BT := BT.node (boot_o_7 E.P) (n696 E) (n698 E)
noncomputable def n700 (E : Wd) : BT := BT.node (o483 E) BT.nil BT.nil
noncomputable def n701 (E : Wd) : BT := BT.node (boot_o_8 E.P) (n700 E) BT.nil
noncomputable def n702 (E : Wd) : BT := BT.node (o547 E) BT.nil BT.nil
noncomputable def n703 (E : Wd) : BT := BT.node (boot_o_8 E.P) (n702 E) BT.nil
noncomputable def n704 (E : Wd) : BT := BT.node (boot_o_7 E.P) (n701 E) (n703 E)
noncomputable def n705 (E : Wd) : BT := BT.node (o38 E) (n699 E) (n704 E)
noncomputable def n706 (E : Wd) : BT := BT.node (o18 E) (n693 E) (n705 E)
noncomputable def n707 (E : Wd) : BT := BT.node (o446 E) BT.nil BT.nil
noncomputable def n708 (E : Wd) : BT := BT.node (o571 E) BT.nil BT.nil
noncomputable def n709 (E : Wd) : BT := BT.node (boot_o_7 E.P) (n707 E) (n708 E)
noncomputable def n710 (E : Wd) : BT := BT.node (o507 E) BT.nil BT.nil
noncomputable def n711 (E : Wd) : BT := BT.node (o128 E) (n710 E) BT.nil
noncomputable def n712 (E : Wd) : BT := BT.node (o51 E) (n709 E) (n711 E)
noncomputable def n713 (E : Wd) : BT := BT.node (o475 E) BT.nil BT.nil
noncomputable def n714 (E : Wd) : BT := BT.node (boot_o_7 E.P) (n713 E) BT.nil
noncomputable def n715 (E : Wd) : BT := BT.node (o539 E) BT.nil BT.nil
noncomputable def n716 (E : Wd) : BT := BT.node (boot_o_7 E.P) (n715 E) BT.nil
noncomputable def n717 (E : Wd) : BT := BT.node (o70 E) (n714 E) (n716 E)
noncomputable def n718 (E : Wd) : BT := BT.node (o33 E) (n712 E) (n717 E)
noncomputable def n719 (E : Wd) : BT := BT.node (o459 E) BT.nil BT.nil
noncomputable def n720 (E : Wd) : BT := BT.node (o97 E) (n719 E) BT.nil
noncomputable def n721 (E : Wd) : BT := BT.node (o523 E) BT.nil BT.nil
noncomputable def n722 (E : Wd) : BT := BT.node (o138 E) (n721 E) BT.nil
noncomputable def n723 (E : Wd) : BT := BT.node (o60 E) (n720 E) (n722 E)
noncomputable def n724 (E : Wd) : BT := BT.node (o491 E) BT.nil BT.nil
noncomputable def n725 (E : Wd) : BT := BT.node (o115 E) (n724 E) BT.nil
noncomputable def n726 (E : Wd) : BT := BT.node (o555 E) BT.nil BT.nil
noncomputable def n727 (E : Wd) : BT := BT.node (o437 E) (n726 E) BT.nil
noncomputable def n728 (E : Wd) : BT := BT.node (boot_o_8 E.P) (n725 E) (n727 E)
noncomputable def n729 (E : Wd) : BT := BT.node (boot_o_7 E.P) (n723 E) (n728 E)
noncomputable def n730 (E : Wd) : BT := BT.node (boot_o_7 E.P) (n718 E) (n729 E)
noncomputable def n731 (E : Wd) : BT := BT.node (boot_o_9 E.P) (n706 E) (n730 E)
noncomputable def n732 (E : Wd) : BT := BT.node (o567 E) BT.nil BT.nil
noncomputable def n733 (E : Wd) : BT := BT.node (o86 E) (n3 E) (n732 E)
noncomputable def n734 (E : Wd) : BT := BT.node (o503 E) BT.nil BT.nil
noncomputable def n735 (E : Wd) : BT := BT.node (o426 E) (n734 E) BT.nil
noncomputable def n736 (E : Wd) : BT := BT.node (o49 E) (n733 E) (n735 E)
noncomputable def n737 (E : Wd) : BT := BT.node (o471 E) BT.nil BT.nil
noncomputable def n738 (E : Wd) : BT := BT.node (boot_o_7 E.P) (n737 E) BT.nil
noncomputable def n739 (E : Wd) : BT := BT.node (o535 E) BT.nil BT.nil
noncomputable def n740 (E : Wd) : BT := BT.node (o334 E) (n739 E) BT.nil
noncomputable def n741 (E : Wd) : BT := BT.node (o67 E) (n738 E) (n740 E)
noncomputable def n742 (E : Wd) : BT := BT.node (boot_o_8 E.P) (n736 E) (n741 E)
noncomputable def n743 (E : Wd) : BT := BT.node (o455 E) BT.nil BT.nil
noncomputable def n744 (E : Wd) : BT := BT.node (o583 E) BT.nil BT.nil
noncomputable def n745 (E : Wd) : BT := BT.node (boot_o_8 E.P) (n743 E) (n744 E)
noncomputable def n746 (E : Wd) : BT := BT.node (o519 E) BT.nil BT.nil
noncomputable def n747 (E : Wd) : BT := BT.node (o134 E) (n746 E) BT.nil
noncomputable def n748 (E : Wd) : BT := BT.node (boot_o_7 E.P) (n745 E) (n747 E)
noncomputable def n749 (E : Wd) : BT := BT.node (o487 E) BT.nil BT.nil
noncomputable def n750 (E : Wd) : BT := BT.node (o113 E) (n749 E) BT.nil
noncomputable def n751 (E : Wd) : BT := BT.node (o551 E) BT.nil BT.nil
noncomputable def n752 (E : Wd) : BT := BT.node (o435 E) (n751 E) BT.nil
noncomputable def n753 (E : Wd) : BT := BT.node (o76 E) (n750 E) (n752 E)
noncomputable def n754 (E : Wd) : BT := BT.node (boot_o_7 E.P) (n748 E) (n753 E)
noncomputable def n755 (E : Wd) : BT := BT.node (o21 E) (n742 E) (n754 E)
noncomputable def n756 (E : Wd) : BT := BT.node (o575 E) BT.nil BT.nil
noncomputable def n757 (E : Wd) : BT := BT.node (boot_o_7 E.P) (n9 E) (n756 E)
noncomputable def n758 (E : Wd) : BT := BT.node (o511 E) BT.nil BT.nil
noncomputable def n759 (E : Wd) : BT := BT.node (boot_o_7 E.P) (n758 E) BT.nil
noncomputable def n760 (E : Wd) : BT := BT.node (o54 E) (n757 E) (n759 E)
noncomputable def n761 (E : Wd) : BT := BT.node (o479 E) BT.nil BT.nil
noncomputable def n762 (E : Wd) : BT := BT.node (o108 E) (n761 E) BT.nil
noncomputable def n763 (E : Wd) : BT := BT.node (o543 E) BT.nil BT.nil
noncomputable def n764 (E : Wd) : BT := BT.node (o430 E) (n763 E) BT.nil
noncomputable def n765 (E : Wd) : BT := BT.node (boot_o_7 E.P) (n762 E) (n764 E)
noncomputable def n766 (E : Wd) : BT := BT.node (o35 E) (n760 E) (n765 E)
noncomputable def n767 (E : Wd) : BT := BT.node (o463 E) BT.nil BT.nil
noncomputable def n768 (E : Wd) : BT := BT.node (o99 E) (n767 E) BT.nil
noncomputable def n769 (E : Wd) : BT := BT.node (o527 E) BT.nil BT.nil
noncomputable def n770 (E : Wd) : BT := BT.node (o142 E) (n769 E) BT.nil
noncomputable def n771 (E : Wd) : BT := BT.node (boot_o_8 E.P) (n768 E) (n770 E)
noncomputable def n772 (E : Wd) : BT := BT.node (o495 E) BT.nil BT.nil
noncomputable def n773 (E : Wd) : BT := BT.node (o118 E) (n772 E) BT.nil
noncomputable def n774 (E : Wd) : BT := BT.node (o559 E) BT.nil BT.nil
noncomputable def n775 (E : Wd) : BT := BT.node (o440 E) (n774 E) BT.nil
noncomputable def n776 (E : Wd) : BT := BT.node (o81 E) (n773 E) (n775 E)
noncomputable def n777 (E : Wd) : BT := BT.node (o44 E) (n771 E) (n776 E)
noncomputable def n778 (E : Wd) : BT := BT.node (boot_o_7 E.P) (n766 E) (n777 E)
noncomputable def n779 (E : Wd) : BT := BT.node (o1 E) (n755 E) (n778 E)
noncomputable def n780 (E : Wd) : BT := BT.node (boot_o_5 E.P) (n731 E) (n779 E)
noncomputable def n781 (E : Wd) : BT := BT.node (boot_o_1 E.P) (n682 E) (n780 E)
noncomputable def n782 (E : Wd) : BT := BT.node (o441 E) BT.nil BT.nil
noncomputable def n783 (E : Wd) : BT := BT.node (o562 E) BT.nil BT.nil
noncomputable def n784 (E : Wd) : BT := BT.node (boot_o_8 E.P) (n782 E) (n783 E)
noncomputable def n785 (E : Wd) : BT := BT.node (o498 E) BT.nil BT.nil
noncomputable def n786 (E : Wd) : BT := BT.node (o119 E) (n785 E) BT.nil
noncomputable def n787 (E : Wd) : BT := BT.node (boot_o_7 E.P) (n784 E) (n786 E)
noncomputable def n788 (E : Wd) : BT := BT.node (o466 E) BT.nil BT.nil
noncomputable def n789 (E : Wd) : BT := BT.node (o101 E) (n788 E) BT.nil
noncomputable def n790 (E : Wd) : BT := BT.node (o530 E) BT.nil BT.nil
noncomputable def n791 (E : Wd) : BT := BT.node (o22 E) (n790 E) BT.nil
noncomputable def n792 (E : Wd) : BT := BT.node (o64 E) (n789 E) (n791 E)
noncomputable def n793 (E : Wd) : BT := BT.node (boot_o_7 E.P) (n787 E) (n792 E)
noncomputable def n794 (E : Wd) : BT := BT.node (o450 E) BT.nil BT.nil
noncomputable def n795 (E : Wd) : BT := BT.node (o578 E) BT.nil BT.nil
noncomputable def n796 (E : Wd) : BT := BT.node (boot_o_7 E.P) (n794 E) (n795 E)
noncomputable def n797 (E : Wd) : BT := BT.node (o514 E) BT.nil BT.nil
noncomputable def n798 (E : Wd) : BT := BT.node (o132 E) (n797 E) BT.nil
noncomputable def n799 (E : Wd) : BT := BT.node (o55 E) (n796 E) (n798 E)
noncomputable def n800 (E : Wd) : BT := BT.node (o482 E) BT.nil BT.nil
noncomputable def n801 (E : Wd) : BT := BT.node (boot_o_7 E.P) (n800 E) BT.nil
noncomputable def n802 (E : Wd) : BT := BT.node (o546 E) BT.nil BT.nil
noncomputable def n803 (E : Wd) : BT := BT.node (boot_o_7 E.P) (n802 E) BT.nil
noncomputable def n804 (E : Wd) : BT := BT.node (o74 E) (n801 E) (n803 E)
noncomputable def n805 (E : Wd) : BT := BT.node (o37 E) (n799 E) (n804 E)
noncomputable def n806 (E : Wd) : BT := BT.node (boot_o_8 E.P) (n793 E) (n805 E)
noncomputable def n807 (E : Wd) : BT := BT.node (o570 E) BT.nil BT.nil
noncomputable def n808 (E : Wd) : BT := BT.node (o87 E) (n3 E) (n807 E)
noncomputable def n809 (E : Wd) : BT := BT.node (o506 E) BT.nil BT.nil
noncomputable def n810 (E : Wd) : BT := BT.node (o127 E) (n809 E) BT.nil
noncomputable def n811 (E : Wd) : BT := BT.node (boot_o_8 E.P) (n808 E) (n810 E)
noncomputable def n812 (E : Wd) : BT := BT.node (o474 E) BT.nil BT.nil
noncomputable def n813 (E : Wd) : BT := BT.node (o106 E) (n812 E) BT.nil
noncomputable def n814 (E : Wd) : BT := BT.node (o538 E) BT.nil BT.nil
noncomputable def n815 (E : Wd) : BT := BT.node (setO E.Z) (n814 E) BT.nil
noncomputable def n816 (E : Wd) : BT := BT.node (o69 E) (n813 E) (n815 E)
noncomputable def n817 (E : Wd) : BT := BT.node (o32 E) (n811 E) (n816 E)
noncomputable def n818 (E : Wd) : BT := BT.node (o458 E) BT.nil BT.nil
noncomputable def n819 (E : Wd) : BT := BT.node (o96 E) (n818 E) BT.nil
noncomputable def n820 (E : Wd) : BT := BT.node (o522 E) BT.nil BT.nil
noncomputable def n821 (E : Wd) : BT := BT.node (o137 E) (n820 E) BT.nil
noncomputable def n822 (E : Wd) : BT := BT.node (boot_o_7 E.P) (n819 E) (n821 E)
noncomputable def n823 (E : Wd) : BT := BT.node (o490 E) BT.nil BT.nil
noncomputable def n824 (E : Wd) : BT := BT.node (boot_o_8 E.P) (n823 E) BT.nil
noncomputable def n825 (E : Wd) : BT := BT.node (o554 E) BT.nil BT.nil
noncomputable def n826 (E : Wd) : BT := BT.node (boot_o_8 E.P) (n825 E) BT.nil
noncomputable def n827 (E : Wd) : BT := BT.node (boot_o_7 E.P) (n824 E) (n826 E)
noncomputable def n828 (E : Wd) : BT := BT.node (o42 E) (n822 E) (n827 E)
noncomputable def n829 (E : Wd) : BT := BT.node (o23 E) (n817 E) (n828 E)
noncomputable def n830 (E : Wd) : BT := BT.node (boot_o_8 E.P) (n806 E) (n829 E)
noncomputable def n831 (E : Wd) : BT := BT.node (o444 E) BT.nil BT.nil
noncomputable def n832 (E : Wd) : BT := BT.node (o566 E) BT.nil BT.nil
noncomputable def n833 (E : Wd) : BT := BT.node (o85 E) (n831 E) (n832 E)
noncomputable def n834 (E : Wd) : BT := BT.node (o502 E) BT.nil BT.nil
noncomputable def n835 (E : Wd) : BT := BT.node (o123 E) (n834 E) BT.nil
noncomputable def n836 (E : Wd) : BT := BT.node (o48 E) (n833 E) (n835 E)
noncomputable def n837 (E : Wd) : BT := BT.node (o470 E) BT.nil BT.nil
noncomputable def n838 (E : Wd) : BT := BT.node (o103 E) (n837 E) BT.nil
noncomputable def n839 (E : Wd) : BT := BT.node (o534 E) BT.nil BT.nil
noncomputable def n840 (E : Wd) : BT := BT.node (o333 E) (n839 E) BT.nil
noncomputable def n841 (E : Wd) : BT := BT.node (boot_o_8 E.P) (n838 E) (n840 E)
noncomputable def n842 (E : Wd) : BT := BT.node (boot_o_7 E.P) (n836 E) (n841 E)
noncomputable def n843 (E : Wd) : BT := BT.node (o454 E) BT.nil BT.nil
noncomputable def n844 (E : Wd) : BT := BT.node (o582 E) BT.nil BT.nil
noncomputable def n845 (E : Wd) : BT := BT.node (boot_o_7 E.P) (n843 E) (n844 E)
noncomputable def n846 (E : Wd) : BT := BT.node (o518 E) BT.nil BT.nil
noncomputable def n847 (E : Wd) : BT := BT.node (boot_o_7 E.P) (n846 E) BT.nil
noncomputable def n848 (E : Wd) : BT := BT.node (o58 E) (n845 E) (n847 E)
noncomputable def n849 (E : Wd) : BT := BT.node (o486 E) BT.nil BT.nil
noncomputable def n850 (E : Wd) : BT := BT.node (o112 E) (n849 E) BT.nil
noncomputable def n851 (E : Wd) : BT := BT.node (o550 E) BT.nil BT.nil
noncomputable def n852 (E : Wd) : BT := BT.node (o434 E) (n851 E) BT.nil
noncomputable def n853 (E : Wd) : BT := BT.node (boot_o_7 E.P) (n850 E) (n852 E)
noncomputable def n854 (E : Wd) : BT := BT.node (o39 E) (n848 E) (n853 E)
noncomputable def n855 (E : Wd) : BT := BT.node (o20 E) (n842 E) (n854 E)
noncomputable def n856 (E : Wd) : BT := BT.node (o574 E) BT.nil BT.nil
noncomputable def n857 (E : Wd) : BT := BT.node (o90 E) (n3 E) (n856 E)
noncomputable def n858 (E : Wd) : BT := BT.node (o510 E) BT.nil BT.nil
noncomputable def n859 (E : Wd) : BT := BT.node (o129 E) (n858 E) BT.nil
noncomputable def n860 (E : Wd) : BT := BT.node (o53 E) (n857 E) (n859 E)
noncomputable def n861 (E : Wd) : BT := BT.node (o478 E) BT.nil BT.nil
noncomputable def n862 (E : Wd) : BT := BT.node (boot_o_7 E.P) (n861 E) BT.nil
noncomputable def n863 (E : Wd) : BT := BT.node (o542 E) BT.nil BT.nil
noncomputable def n864 (E : Wd) : BT := BT.node (boot_o_7 E.P) (n863 E) BT.nil
noncomputable def n865 (E : Wd) : BT := BT.node (o71 E) (n862 E) (n864 E)
noncomputable def n866 (E : Wd) : BT := BT.node (boot_o_8 E.P) (n860 E) (n865 E)
noncomputable def n867 (E : Wd) : BT := BT.node (o462 E) BT.nil BT.nil
noncomputable def n868 (E : Wd) : BT := BT.node (boot_o_8 E.P) (n867 E) BT.nil
noncomputable def n869 (E : Wd) : BT := BT.node (o526 E) BT.nil BT.nil
noncomputable def n870 (E : Wd) : BT := BT.node (o141 E) (n869 E) BT.nil
noncomputable def n871 (E : Wd) : BT := BT.node (boot_o_7 E.P) (n868 E) (n870 E)
noncomputable def n872 (E : Wd) : BT := BT.node (o494 E) BT.nil BT.nil
noncomputable def n873 (E : Wd) : BT := BT.node (o117 E) (n872 E) BT.nil
noncomputable def n874 (E : Wd) : BT := BT.node (o558 E) BT.nil BT.nil
noncomputable def n875 (E : Wd) : BT := BT.node (o439 E) (n874 E) BT.nil
noncomputable def n876 (E : Wd) : BT := BT.node (o80 E) (n873 E) (n875 E)
noncomputable def n877 (E : Wd) : BT := BT.node (boot_o_7 E.P) (n871 E) (n876 E)
noncomputable def n878 (E : Wd) : BT := BT.node (o26 E) (n866 E) (n877 E)
noncomputable def n879 (E : Wd) : BT := BT.node (o330 E) (n855 E) (n878 E)
noncomputable def n880 (E : Wd) : BT := BT.node (boot_o_4 E.P) (n830 E) (n879 E)
noncomputable def n881 (E : Wd) : BT := BT.node (o442 E) BT.nil BT.nil
noncomputable def n882 (E : Wd) : BT := BT.node (o564 E) BT.nil BT.nil
noncomputable def n883 (E : Wd) : BT := BT.node (boot_o_7 E.P) (n881 E) (n882 E)
noncomputable def n884 (E : Wd) : BT := BT.node (o500 E) BT.nil BT.nil
noncomputable def n885 (E : Wd) : BT := BT.node (o121 E) (n884 E) BT.nil
noncomputable def n886 (E : Wd) : BT := BT.node (o47 E) (n883 E) (n885 E)
noncomputable def n887 (E : Wd) : BT := BT.node (o468 E) BT.nil BT.nil
noncomputable def n888 (E : Wd) : BT := BT.node (boot_o_7 E.P) (n887 E) BT.nil
noncomputable def n889 (E : Wd) : BT := BT.node (o532 E) BT.nil BT.nil
noncomputable def n890 (E : Wd) : BT := BT.node (boot_o_7 E.P) (n889 E) BT.nil
noncomputable def n891 (E : Wd) : BT := BT.node (o66 E) (n888 E) (n890 E)
noncomputable def n892 (E : Wd) : BT := BT.node (o29 E) (n886 E) (n891 E)
noncomputable def n893 (E : Wd) : BT := BT.node (o452 E) BT.nil BT.nil
noncomputable def n894 (E : Wd) : BT := BT.node (o580 E) BT.nil BT.nil
noncomputable def n895 (E : Wd) : BT := BT.node (o93 E) (n893 E) (n894 E)
noncomputable def n896 (E : Wd) : BT := BT.node (o516 E) BT.nil BT.nil
noncomputable def n897 (E : Wd) : BT := BT.node (boot_o_8 E.P) (n896 E) BT.nil
noncomputable def n898 (E : Wd) : BT := BT.node (o56 E) (n895 E) (n897 E)
noncomputable def n899 (E : Wd) : BT := BT.node (o484 E) BT.nil BT.nil
noncomputable def n900 (E : Wd) : BT := BT.node (o111 E) (n899 E) BT.nil
noncomputable def n901 (E : Wd) : BT := BT.node (o548 E) BT.nil BT.nil
noncomputable def n902 (E : Wd) : BT := BT.node (o433 E) (n901 E) BT.nil
noncomputable def n903 (E : Wd) : BT := BT.node (boot_o_8 E.P) (n900 E) (n902 E)
noncomputable def n904 (E : Wd) : BT := BT.node (boot_o_7 E.P) (n898 E) (n903 E)
noncomputable def n905 (E : Wd) : BT := BT.node (boot_o_7 E.P) (n892 E) (n904 E)
noncomputable def n906 (E : Wd) : BT := BT.node (o447 E) BT.nil BT.nil
noncomputable def n907 (E : Wd) : BT := BT.node (o572 E) BT.nil BT.nil
noncomputable def n908 (E : Wd) : BT := BT.node (o88 E) (n906 E) (n907 E)
noncomputable def n909 (E : Wd) : BT := BT.node (o508 E) BT.nil BT.nil
noncomputable def n910 (E : Wd) : BT := BT.node (boot_o_7 E.P) (n909 E) BT.nil
noncomputable def n911 (E : Wd) : BT := BT.node (boot_o_7 E.P) (n908 E) (n910 E)
noncomputable def n912 (E : Wd) : BT := BT.node (o476 E) BT.nil BT.nil
noncomputable def n913 (E : Wd) : BT := BT.node (boot_o_8 E.P) (n912 E) BT.nil
noncomputable def n914 (E : Wd) : BT := BT.node (o540 E) BT.nil BT.nil
noncomputable def n915 (E : Wd) : BT := BT.node (boot_o_8 E.P) (n914 E) BT.nil
noncomputable def n916 (E : Wd) : BT := BT.node (boot_o_7 E.P) (n913 E) (n915 E)
noncomputable def n917 (E : Wd) : BT := BT.node (o34 E) (n911 E) (n916 E)
noncomputable def n918 (E : Wd) : BT := BT.node (o460 E) BT.nil BT.nil
noncomputable def n919 (E : Wd) : BT := BT.node (o98 E) (n918 E) BT.nil
noncomputable def n920 (E : Wd) : BT := BT.node (o524 E) BT.nil BT.nil
noncomputable def n921 (E : Wd) : BT := BT.node (o139 E) (n920 E) BT.nil
noncomputable def n922 (E : Wd) : BT := BT.node (o61 E) (n919 E) (n921 E)
noncomputable def n923 (E : Wd) : BT := BT.node (o492 E) BT.nil BT.nil
noncomputable def n924 (E : Wd) : BT := BT.node (boot_o_7 E.P) (n923 E) BT.nil
noncomputable def n925 (E : Wd) : BT := BT.node (o556 E) BT.nil BT.nil
noncomputable def n926 (E : Wd) : BT := BT.node (boot_o_7 E.P) (n925 E) BT.nil
noncomputable def n927 (E : Wd) : BT := BT.node (o79 E) (n924 E) (n926 E)
noncomputable def n928 (E : Wd) : BT := BT.node (boot_o_8 E.P) (n922 E) (n927 E)
noncomputable def n929 (E : Wd) : BT := BT.node (o24 E) (n917 E) (n928 E)
noncomputable def n930 (E : Wd) : BT := BT.node (boot_o_10 E.P) (n905 E) (n929 E)
noncomputable def n931 (E : Wd) : BT := BT.node (o568 E) BT.nil BT.nil
noncomputable def n932 (E : Wd) : BT := BT.node (boot_o_7 E.P) (n9 E) (n931 E)
noncomputable def n933 (E : Wd) : BT := BT.node (o504 E) BT.nil BT.nil
noncomputable def n934 (E : Wd) : BT := BT.node (o125 E) (n933 E) BT.nil
noncomputable def n935 (E : Wd) : BT := BT.node (o50 E) (n932 E) (n934 E)
noncomputable def n936 (E : Wd) : BT := BT.node (o472 E) BT.nil BT.nil
noncomputable def n937 (E : Wd) : BT := BT.node (o104 E) (n936 E) BT.nil
noncomputable def n938 (E : Wd) : BT := BT.node (o536 E) BT.nil BT.nil
noncomputable def n939 (E : Wd) : BT := BT.node (setO E.X) (n938 E) BT.nil
noncomputable def n940 (E : Wd) : BT := BT.node (boot_o_7 E.P) (n937 E) (n939 E)
noncomputable def n941 (E : Wd) : BT := BT.node (o31 E) (n935 E) (n940 E)
noncomputable def n942 (E : Wd) : BT := BT.node (o456 E) BT.nil BT.nil
noncomputable def n943 (E : Wd) : BT := BT.node (o95 E) (n942 E) BT.nil
noncomputable def n944 (E : Wd) : BT := BT.node (o520 E) BT.nil BT.nil
noncomputable def n945 (E : Wd) : BT := BT.node (o135 E) (n944 E) BT.nil
noncomputable def n946 (E : Wd) : BT := BT.node (boot_o_8 E.P) (n943 E) (n945 E)
noncomputable def n947 (E : Wd) : BT := BT.node (o488 E) BT.nil BT.nil
noncomputable def n948 (E : Wd) : BT := BT.node (o114 E) (n947 E) BT.nil
noncomputable def n949 (E : Wd) : BT := BT.node (o552 E) BT.nil BT.nil
noncomputable def n950 (E : Wd) : BT := BT.node (o436 E) (n949 E) BT.nil
noncomputable def n951 (E : Wd) : BT := BT.node (o77 E) (n948 E) (n950 E)
noncomputable def n952 (E : Wd) : BT := BT.node (o40 E) (n946 E) (n951 E)
noncomputable def n953 (E : Wd) : BT := BT.node (boot_o_7 E.P) (n941 E) (n952 E)
noncomputable def n954 (E : Wd) : BT := BT.node (o449 E) BT.nil BT.nil
noncomputable def n955 (E : Wd) : BT := BT.node (o576 E) BT.nil BT.nil
noncomputable def n956 (E : Wd) : BT := BT.node (boot_o_8 E.P) (n954 E) (n955 E)
noncomputable def n957 (E : Wd) : BT := BT.node (o512 E) BT.nil BT.nil
noncomputable def n958 (E : Wd) : BT := BT.node (o130 E) (n957 E) BT.nil
noncomputable def n959 (E : Wd) : BT := BT.node (boot_o_7 E.P) (n956 E) (n958 E)
noncomputable def n960 (E : Wd) : BT := BT.node (o480 E) BT.nil BT.nil
noncomputable def n961 (E : Wd) : BT := BT.node (o109 E) (n960 E) BT.nil
noncomputable def n962 (E : Wd) : BT := BT.node (o544 E) BT.nil BT.nil
noncomputable def n963 (E : Wd) : BT := BT.node (o431 E) (n962 E) BT.nil
noncomputable def n964 (E : Wd) : BT := BT.node (o72 E) (n961 E) (n963 E)
noncomputable def n965 (E : Wd) : BT := BT.node (boot_o_7 E.P) (n959 E) (n964 E)
noncomputable def n966 (E : Wd) : BT := BT.node (o464 E) BT.nil BT.nil
noncomputable def n967 (E : Wd) : BT := BT.node (boot_o_7 E.P) (n966 E) BT.nil
noncomputable def n968 (E : Wd) : BT := BT.node (o528 E) BT.nil BT.nil
noncomputable def n969 (E : Wd) : BT := BT.node (o143 E) (n968 E) BT.nil
noncomputable def n970 (E : Wd) : BT := BT.node (o63 E) (n967 E) (n969 E)
noncomputable def n971 (E : Wd) : BT := BT.node (o496 E) BT.nil BT.nil
noncomputable def n972 (E : Wd) : BT := BT.node (boot_o_7 E.P) (n971 E) BT.nil
noncomputable def n973 (E : Wd) : BT := BT.node (o560 E) BT.nil BT.nil
noncomputable def n974 (E : Wd) : BT := BT.node (boot_o_7 E.P) (n973 E) BT.nil
noncomputable def n975 (E : Wd) : BT := BT.node (o82 E) (n972 E) (n974 E)
noncomputable def n976 (E : Wd) : BT := BT.node (o45 E) (n970 E) (n975 E)
noncomputable def n977 (E : Wd) : BT := BT.node (boot_o_8 E.P) (n965 E) (n976 E)
noncomputable def n978 (E : Wd) : BT := BT.node (o2 E) (n953 E) (n977 E)
noncomputable def n979 (E : Wd) : BT := BT.node (boot_o_6 E.P) (n930 E) (n978 E)
noncomputable def n980 (E : Wd) : BT := BT.node (boot_o_2 E.P) (n880 E) (n979 E)
noncomputable def n981 (E : Wd) : BT := BT.node (boot_o_0 E.P) (n781 E) (n980 E)
noncomputable def S7_t (E : Wd) : BT := (n981 E)
noncomputable def S7 (E : Wd) (os : OsState) : SharedT := SharedT.mk (S7_t E) 406 lifeH (Array.mk []) (Drawn.mk 0 0 0 0) 1184 os
theorem LR (w : World) (os : OsState) (X Y Z : SetP) : segRunT treeTable pw w 11 (some (.ref 6)) 1 7380 (A3 ⟨w.params, X, Y, Z⟩ os) ⟨(execs (dropS 3 bC) envC).wrap doneF (leaveH envC) id id, cC, ⟨170, 4, 170, 14⟩, B2 w os⟩ = some (.next, S7 ⟨w.params, X, Y, Z⟩ os, cT, ⟨167, 0, 336, 115⟩) := by
  exact byG (by kernel_rfl)
noncomputable def o982 (E : Wd) : Obj := (Obj.mk Value.none Option.none (Data.dict (List.toArray [(DictEntry.mk (PyData.keyHash E.P (Str.ofString "type.__subclasses__.Exception.0")) (Value.str (Str.ofString "type.__subclasses__.Exception.0") 1200) (Value.int (415 : Int) 0)), (DictEntry.mk (PyData.keyHash E.P (Str.ofString "type.__subclasses__.Exception.n")) (Value.str (Str.ofString "type.__subclasses__.Exception.n") 1201) (Value.int (3 : Int) 0)), (DictEntry.mk (PyData.keyHash E.P (Str.ofString "type.__subclasses__.Exception.1")) (Value.str (Str.ofString "type.__subclasses__.Exception.1") 1220) (Value.int (428 : Int) 0)), (DictEntry.mk (PyData.keyHash E.P (Str.ofString "type.__subclasses__.Exception.2")) (Value.str (Str.ofString "type.__subclasses__.Exception.2") 1240) (Value.int (441 : Int) 0))]) 4) (List.toArray []))
noncomputable def o983 (E : Wd) : Obj := (Obj.mk (Value.type "dict") Option.none (Data.dict (List.toArray [(DictEntry.mk (PyData.keyHash E.P (Str.ofString "__name__")) (Value.str (Str.ofString "__name__") 165) (Value.str (Str.ofString "law_ip0001_01") 1244)), (DictEntry.mk (PyData.keyHash E.P (Str.ofString "__doc__")) (Value.str (Str.ofString "__doc__") 166) Value.none), (DictEntry.mk (PyData.keyHash E.P (Str.ofString "__package__")) (Value.str (Str.ofString "__package__") 167) Value.none), (DictEntry.mk (PyData.keyHash E.P (Str.ofString "__loader__")) (Value.str (Str.ofString "__loader__") 168) (Value.builtin "__main__.__loader__#opaque")), (DictEntry.mk (PyData.keyHash E.P (Str.ofString "__spec__")) (Value.str (Str.ofString "__spec__") 169) Value.none), (DictEntry.mk (PyData.keyHash E.P (Str.ofString "__annotations__")) (Value.str (Str.ofString "__annotations__") 170) (Value.ref 6)), (DictEntry.mk (PyData.keyHash E.P (Str.ofString "__builtins__")) (Value.str (Str.ofString "__builtins__") 171) (Value.ref 4)), (DictEntry.mk (PyData.keyHash E.P (Str.ofString "__file__")) (Value.str (Str.ofString "__file__") 173) (Value.str (Str.ofString "/claim/cut.py") 172)), (DictEntry.mk (PyData.keyHash E.P (Str.ofString "__cached__")) (Value.str (Str.ofString "__cached__") 174) Value.none), (DictEntry.mk (PyData.keyHash E.P (Str.ofString "_wall")) (Value.str (Str.ofString "_wall") 193) (Value.ref 21)), (DictEntry.mk (PyData.keyHash E.P (Str.ofString "BaseStemmer")) (Value.str (Str.ofString "BaseStemmer") 423) (Value.ref 197)), (DictEntry.mk (PyData.keyHash E.P (Str.ofString "Among")) (Value.str (Str.ofString "Among") 458) (Value.ref 218)), (DictEntry.mk (PyData.keyHash E.P (Str.ofString "DanishStemmer")) (Value.str (Str.ofString "DanishStemmer") 1183) (Value.ref 403)), (DictEntry.mk (PyData.keyHash E.P (Str.ofString "lab0")) (Value.str (Str.ofString "lab0") 1203) (Value.ref 415)), (DictEntry.mk (PyData.keyHash E.P (Str.ofString "lab1")) (Value.str (Str.ofString "lab1") 1223) (Value.ref 428)), (DictEntry.mk (PyData.keyHash E.P (Str.ofString "lab2")) (Value.str (Str.ofString "lab2") 1243) (Value.ref 441)), (DictEntry.mk (PyData.keyHash E.P (Str.ofString "_law_signs")) (Value.str (Str.ofString "_law_signs") 1283) (Value.ref 445)), (DictEntry.mk (PyData.keyHash E.P (Str.ofString "_law_vowels")) (Value.str (Str.ofString "_law_vowels") 1289) (Value.ref 452)), (DictEntry.mk (PyData.keyHash E.P (Str.ofString "_law_before")) (Value.str (Str.ofString "_law_before") 1295) (Value.ref 459)), (DictEntry.mk (PyData.keyHash E.P (Str.ofString "_law_doubled")) (Value.str (Str.ofString "_law_doubled") 1301) (Value.ref 466)), (DictEntry.mk (PyData.keyHash E.P (Str.ofString "_law_main")) (Value.str (Str.ofString "_law_main") 1334) (Value.ref 467)), (DictEntry.mk (PyData.keyHash E.P (Str.ofString "_law_pairs")) (Value.str (Str.ofString "_law_pairs") 1339) (Value.ref 468)), (DictEntry.mk (PyData.keyHash E.P (Str.ofString "_law_other")) (Value.str (Str.ofString "_law_other") 1345) (Value.ref 469)), (DictEntry.mk (PyData.keyHash E.P (Str.ofString "_law_more")) (Value.str (Str.ofString "_law_more") 1383) (Value.ref 470)), (DictEntry.mk (PyData.keyHash E.P (Str.ofString "_law_sizes")) (Value.str (Str.ofString "_law_sizes") 1392) (Value.ref 471)), (DictEntry.mk (PyData.keyHash E.P (Str.ofString "_law_region")) (Value.str (Str.ofString "_law_region") 1401) (Value.ref 478)), (DictEntry.mk (PyData.keyHash E.P (Str.ofString "_law_end")) (Value.str (Str.ofString "_law_end") 1411) (Value.ref 485)), (DictEntry.mk (PyData.keyHash E.P (Str.ofString "_law_pair")) (Value.str (Str.ofString "_law_pair") 1419) (Value.ref 492)), (DictEntry.mk (PyData.keyHash E.P (Str.ofString "_law_stem")) (Value.str (Str.ofString "_law_stem") 1430) (Value.ref 499)), (DictEntry.mk (PyData.keyHash E.P (Str.ofString "law")) (Value.str (Str.ofString "law") 1436) (Value.ref 504))]) 30) (List.toArray []))
noncomputable def o984 (E : Wd) : Obj := (Obj.mk Value.none Option.none (Data.fields (List.toArray [(Value.int (1 : Int) 0), (Value.int (0 : Int) 0), (Value.ref 20), (Value.int (5 : Int) 0), (Value.int (0 : Int) 0), (Value.ref 27), (Value.int (160 : Int) 0), (Value.int (0 : Int) 0), (Value.ref 207), (Value.int (167 : Int) 0), (Value.int (0 : Int) 0), (Value.ref 228), (Value.int (337 : Int) 0), (Value.int (0 : Int) 0), (Value.ref 411), (Value.int (339 : Int) 0), (Value.int (0 : Int) 0), (Value.ref 424), (Value.int (341 : Int) 0), (Value.int (0 : Int) 0), (Value.ref 437), (Value.int (345 : Int) 0), (Value.int (0 : Int) 0), (Value.ref 451), (Value.int (347 : Int) 0), (Value.int (0 : Int) 0), (Value.ref 458), (Value.int (349 : Int) 0), (Value.int (0 : Int) 0), (Value.ref 465), (Value.int (356 : Int) 0), (Value.int (0 : Int) 0), (Value.ref 477), (Value.int (367 : Int) 0), (Value.int (0 : Int) 0), (Value.ref 484), (Value.int (373 : Int) 0), (Value.int (0 : Int) 0), (Value.ref 491), (Value.int (377 : Int) 0), (Value.int (0 : Int) 0), (Value.ref 498), (Value.int (399 : Int) 0), (Value.int (0 : Int) 0), (Value.ref 503)])) (List.toArray []))
noncomputable def o985 (E : Wd) : Obj := (Obj.mk (Value.type "tuple") Option.none (Data.seq (List.toArray [(Value.type "Exception")]) 0) (List.toArray []))
noncomputable def o986 (E : Wd) : Obj := (Obj.mk (Value.type "dict") Option.none (Data.dict (List.toArray [(DictEntry.mk (PyData.keyHash E.P (Str.ofString "__module__")) (Value.str (Str.ofString "__module__") 1191) (Value.str (Str.ofString "snowballstemmer.danish_stemmer") 459)), (DictEntry.mk (PyData.keyHash E.P (Str.ofString "__qualname__")) (Value.str (Str.ofString "__qualname__") 1193) (Value.str (Str.ofString "lab0") 1192)), (DictEntry.mk (PyData.keyHash E.P (Str.ofString "__firstlineno__")) (Value.str (Str.ofString "__firstlineno__") 1195) (Value.int (337 : Int) 1194)), (DictEntry.mk (PyData.keyHash E.P (Str.ofString "__static_attributes__")) (Value.str (Str.ofString "__static_attributes__") 1196) (Value.ref 413))]) 4) (List.toArray []))
noncomputable def o987 (E : Wd) : Obj := (Obj.mk (Value.type "code") Option.none (Data.fields (List.toArray [(Value.str (Str.ofString "lab0") 1186), (Value.str (Str.ofString "lab0") 1187), (Value.str (Str.ofString "/claim/cut.py") 1188), (Value.int (337 : Int) 0), (Value.int (0 : Int) 0), (Value.int (0 : Int) 0), (Value.int (0 : Int) 0), (Value.int (0 : Int) 0), (Value.ref 409), (Value.bool Bool.false), (Value.int (181 : Int) 0), (Value.ref 410), Value.none, Value.none, Value.none, Value.none, (Value.int (1189 : Int) 0), (Value.int (337 : Int) 0), (Value.str (Str.ofString "/claim/cut.py") 1190)])) (List.toArray []))
noncomputable def o988 (E : Wd) : Obj := (Obj.mk (Value.type "frame") Option.none Data.plain (List.toArray [(Option.some (Value.ref 411)), (Option.some (Value.ref 3)), (Option.some (Value.ref 408)), Option.none, (Option.some (Value.str (Str.ofString "snowballstemmer.danish_stemmer") 459)), Option.none, (Option.some (Value.ref 0))]))
noncomputable def o989 (E : Wd) : Obj := (Obj.mk (Value.type "dict") Option.none (Data.dict (List.toArray [(DictEntry.mk (PyData.keyHash E.P (Str.ofString "__module__")) (Value.str (Str.ofString "__module__") 1191) (Value.str (Str.ofString "snowballstemmer.danish_stemmer") 459)), (DictEntry.mk (PyData.keyHash E.P (Str.ofString "__firstlineno__")) (Value.str (Str.ofString "__firstlineno__") 1195) (Value.int (337 : Int) 1194)), (DictEntry.mk (PyData.keyHash E.P (Str.ofString "__static_attributes__")) (Value.str (Str.ofString "__static_attributes__") 1196) (Value.ref 413)), (DictEntry.mk (PyData.keyHash E.P (Str.ofString "__weakref__")) (Value.str (Str.ofString "__weakref__") 1198) (Value.ref 416)), (DictEntry.mk (PyData.keyHash E.P (Str.ofString "__doc__")) (Value.str (Str.ofString "__doc__") 1199) Value.none)]) 3) (List.toArray []))
noncomputable def o990 (E : Wd) : Obj := (Obj.mk (Value.type "type") Option.none (Data.cls (ClassData.mk (Str.ofString "lab0") [(Value.type "Exception")] [(Value.ref 415), (Value.type "Exception"), (Value.type "BaseException"), (Value.type "object")] 414 (Str.ofString "lab0") Bool.true [] [] Bool.false Option.none Bool.false)) (List.toArray [(Option.some (Value.ref 406)), Option.none, (Option.some (Value.str (Str.ofString "lab0") 1184)), (Option.some (Value.str (Str.ofString "lab0") 1192)), (Option.some (Value.builtin "Exception.__new__")), (Option.some (Value.bool Bool.true))]))
noncomputable def o991 (E : Wd) : Obj := (Obj.mk (Value.type "getset_descriptor") Option.none (Data.fields (List.toArray [(Value.str (Str.ofString "__weakref__") 1197), (Value.ref 415), (Value.builtin "ExceptionGroup.__weakref__"), Value.none])) (List.toArray []))
noncomputable def o992 (E : Wd) : Obj := (Obj.mk (Value.type "super") Option.none (Data.fields (List.toArray [(Value.ref 415), (Value.ref 415), (Value.ref 415)])) (List.toArray []))
noncomputable def o993 (E : Wd) : Obj := (Obj.mk (Value.type "builtin_function_or_method") Option.none (Data.fields (List.toArray [(Value.builtin "object.__init_subclass__"), (Value.ref 415)])) (List.toArray []))
noncomputable def o994 (E : Wd) : Obj := (Obj.mk (Value.type "dict") Option.none (Data.dict (List.toArray [(DictEntry.mk (PyData.keyHash E.P (Str.ofString "__module__")) (Value.str (Str.ofString "__module__") 1211) (Value.str (Str.ofString "snowballstemmer.danish_stemmer") 459)), (DictEntry.mk (PyData.keyHash E.P (Str.ofString "__qualname__")) (Value.str (Str.ofString "__qualname__") 1213) (Value.str (Str.ofString "lab1") 1212)), (DictEntry.mk (PyData.keyHash E.P (Str.ofString "__firstlineno__")) (Value.str (Str.ofString "__firstlineno__") 1215) (Value.int (339 : Int) 1214)), (DictEntry.mk (PyData.keyHash E.P (Str.ofString "__static_attributes__")) (Value.str (Str.ofString "__static_attributes__") 1216) (Value.ref 426))]) 4) (List.toArray []))
noncomputable def o995 (E : Wd) : Obj := (Obj.mk (Value.type "code") Option.none (Data.fields (List.toArray [(Value.str (Str.ofString "lab1") 1206), (Value.str (Str.ofString "lab1") 1207), (Value.str (Str.ofString "/claim/cut.py") 1208), (Value.int (339 : Int) 0), (Value.int (0 : Int) 0), (Value.int (0 : Int) 0), (Value.int (0 : Int) 0), (Value.int (0 : Int) 0), (Value.ref 422), (Value.bool Bool.false), (Value.int (181 : Int) 0), (Value.ref 423), Value.none, Value.none, Value.none, Value.none, (Value.int (1209 : Int) 0), (Value.int (339 : Int) 0), (Value.str (Str.ofString "/claim/cut.py") 1210)])) (List.toArray []))
noncomputable def o996 (E : Wd) : Obj := (Obj.mk (Value.type "frame") Option.none Data.plain (List.toArray [(Option.some (Value.ref 424)), (Option.some (Value.ref 3)), (Option.some (Value.ref 421)), Option.none, (Option.some (Value.str (Str.ofString "snowballstemmer.danish_stemmer") 459)), Option.none, (Option.some (Value.ref 0))]))
noncomputable def o997 (E : Wd) : Obj := (Obj.mk (Value.type "dict") Option.none (Data.dict (List.toArray [(DictEntry.mk (PyData.keyHash E.P (Str.ofString "__module__")) (Value.str (Str.ofString "__module__") 1211) (Value.str (Str.ofString "snowballstemmer.danish_stemmer") 459)), (DictEntry.mk (PyData.keyHash E.P (Str.ofString "__firstlineno__")) (Value.str (Str.ofString "__firstlineno__") 1215) (Value.int (339 : Int) 1214)), (DictEntry.mk (PyData.keyHash E.P (Str.ofString "__static_attributes__")) (Value.str (Str.ofString "__static_attributes__") 1216) (Value.ref 426)), (DictEntry.mk (PyData.keyHash E.P (Str.ofString "__weakref__")) (Value.str (Str.ofString "__weakref__") 1218) (Value.ref 429)), (DictEntry.mk (PyData.keyHash E.P (Str.ofString "__doc__")) (Value.str (Str.ofString "__doc__") 1219) Value.none)]) 3) (List.toArray []))
noncomputable def o998 (E : Wd) : Obj := (Obj.mk (Value.type "type") Option.none (Data.cls (ClassData.mk (Str.ofString "lab1") [(Value.type "Exception")] [(Value.ref 428), (Value.type "Exception"), (Value.type "BaseException"), (Value.type "object")] 427 (Str.ofString "lab1") Bool.true [] [] Bool.false Option.none Bool.false)) (List.toArray [(Option.some (Value.ref 419)), Option.none, (Option.some (Value.str (Str.ofString "lab1") 1204)), (Option.some (Value.str (Str.ofString "lab1") 1212)), (Option.some (Value.builtin "Exception.__new__")), (Option.some (Value.bool Bool.true))]))
noncomputable def o999 (E : Wd) : Obj := (Obj.mk (Value.type "getset_descriptor") Option.none (Data.fields (List.toArray [(Value.str (Str.ofString "__weakref__") 1217), (Value.ref 428), (Value.builtin "ExceptionGroup.__weakref__"), Value.none])) (List.toArray []))
noncomputable def o1000 (E : Wd) : Obj := (Obj.mk (Value.type "super") Option.none (Data.fields (List.toArray [(Value.ref 428), (Value.ref 428), (Value.ref 428)])) (List.toArray []))
noncomputable def o1001 (E : Wd) : Obj := (Obj.mk (Value.type "builtin_function_or_method") Option.none (Data.fields (List.toArray [(Value.builtin "object.__init_subclass__"), (Value.ref 428)])) (List.toArray []))
noncomputable def o1002 (E : Wd) : Obj := (Obj.mk (Value.type "dict") Option.none (Data.dict (List.toArray [(DictEntry.mk (PyData.keyHash E.P (Str.ofString "__module__")) (Value.str (Str.ofString "__module__") 1231) (Value.str (Str.ofString "snowballstemmer.danish_stemmer") 459)), (DictEntry.mk (PyData.keyHash E.P (Str.ofString "__qualname__")) (Value.str (Str.ofString "__qualname__") 1233) (Value.str (Str.ofString "lab2") 1232)), (DictEntry.mk (PyData.keyHash E.P (Str.ofString "__firstlineno__")) (Value.str (Str.ofString "__firstlineno__") 1235) (Value.int (341 : Int) 1234)), (DictEntry.mk (PyData.keyHash E.P (Str.ofString "__static_attributes__")) (Value.str (Str.ofString "__static_attributes__") 1236) (Value.ref 439))]) 4) (List.toArray []))
noncomputable def o1003 (E : Wd) : Obj := (Obj.mk (Value.type "code") Option.none (Data.fields (List.toArray [(Value.str (Str.ofString "lab2") 1226), (Value.str (Str.ofString "lab2") 1227), (Value.str (Str.ofString "/claim/cut.py") 1228), (Value.int (341 : Int) 0), (Value.int (0 : Int) 0), (Value.int (0 : Int) 0), (Value.int (0 : Int) 0), (Value.int (0 : Int) 0), (Value.ref 435), (Value.bool Bool.false), (Value.int (181 : Int) 0), (Value.ref 436), Value.none, Value.none, Value.none, Value.none, (Value.int (1229 : Int) 0), (Value.int (341 : Int) 0), (Value.str (Str.ofString "/claim/cut.py") 1230)])) (List.toArray []))
noncomputable def o1004 (E : Wd) : Obj := (Obj.mk (Value.type "frame") Option.none Data.plain (List.toArray [(Option.some (Value.ref 437)), (Option.some (Value.ref 3)), (Option.some (Value.ref 434)), Option.none, (Option.some (Value.str (Str.ofString "snowballstemmer.danish_stemmer") 459)), Option.none, (Option.some (Value.ref 0))]))
noncomputable def o1005 (E : Wd) : Obj := (Obj.mk (Value.type "dict") Option.none (Data.dict (List.toArray [(DictEntry.mk (PyData.keyHash E.P (Str.ofString "__module__")) (Value.str (Str.ofString "__module__") 1231) (Value.str (Str.ofString "snowballstemmer.danish_stemmer") 459)), (DictEntry.mk (PyData.keyHash E.P (Str.ofString "__firstlineno__")) (Value.str (Str.ofString "__firstlineno__") 1235) (Value.int (341 : Int) 1234)), (DictEntry.mk (PyData.keyHash E.P (Str.ofString "__static_attributes__")) (Value.str (Str.ofString "__static_attributes__") 1236) (Value.ref 439)), (DictEntry.mk (PyData.keyHash E.P (Str.ofString "__weakref__")) (Value.str (Str.ofString "__weakref__") 1238) (Value.ref 442)), (DictEntry.mk (PyData.keyHash E.P (Str.ofString "__doc__")) (Value.str (Str.ofString "__doc__") 1239) Value.none)]) 3) (List.toArray []))
noncomputable def o1006 (E : Wd) : Obj := (Obj.mk (Value.type "type") Option.none (Data.cls (ClassData.mk (Str.ofString "lab2") [(Value.type "Exception")] [(Value.ref 441), (Value.type "Exception"), (Value.type "BaseException"), (Value.type "object")] 440 (Str.ofString "lab2") Bool.true [] [] Bool.false Option.none Bool.false)) (List.toArray [(Option.some (Value.ref 432)), Option.none, (Option.some (Value.str (Str.ofString "lab2") 1224)), (Option.some (Value.str (Str.ofString "lab2") 1232)), (Option.some (Value.builtin "Exception.__new__")), (Option.some (Value.bool Bool.true))]))
noncomputable def o1007 (E : Wd) : Obj := (Obj.mk (Value.type "getset_descriptor") Option.none (Data.fields (List.toArray [(Value.str (Str.ofString "__weakref__") 1237), (Value.ref 441), (Value.builtin "ExceptionGroup.__weakref__"), Value.none])) (List.toArray []))
noncomputable def o1008 (E : Wd) : Obj := (Obj.mk (Value.type "super") Option.none (Data.fields (List.toArray [(Value.ref 441), (Value.ref 441), (Value.ref 441)])) (List.toArray []))
noncomputable def o1009 (E : Wd) : Obj := (Obj.mk (Value.type "builtin_function_or_method") Option.none (Data.fields (List.toArray [(Value.builtin "object.__init_subclass__"), (Value.ref 441)])) (List.toArray []))
noncomputable def o1010 (E : Wd) : Obj := (Obj.mk (Value.type "list") Option.none (Data.seq (List.toArray [(Value.str (Str.ofString "e") 1246), (Value.str (Str.ofString "r") 1247), (Value.str (Str.ofString "n") 1248), (Value.str (Str.ofString "s") 1249), (Value.str (Str.ofString "t") 1250), (Value.str (Str.ofString "d") 1251), (Value.str (Str.ofString "g") 1252), (Value.str (Str.ofString "i") 1253), (Value.str (Str.ofString "l") 1254), (Value.str (Str.ofString "k") 1255), (Value.str (Str.ofString "h") 1256), (Value.str (Str.ofString "ø") 1257), (Value.str (Str.ofString "a") 1258), (Value.str (Str.ofString "'") 1259), (Value.str (Str.ofString "å") 1260), (Value.str (Str.ofString "æ") 1261), (Value.str (Str.ofString "b") 1262), (Value.str (Str.ofString "c") 1263), (Value.str (Str.ofString "f") 1264), (Value.str (Str.ofString "j") 1265), (Value.str (Str.ofString "m") 1266), (Value.str (Str.ofString "o") 1267), (Value.str (Str.ofString "p") 1268), (Value.str (Str.ofString "q") 1269), (Value.str (Str.ofString "u") 1270), (Value.str (Str.ofString "v") 1271), (Value.str (Str.ofString "w") 1272), (Value.str (Str.ofString "x") 1273), (Value.str (Str.ofString "y") 1274), (Value.str (Str.ofString "z") 1275), (Value.str (Str.ofString "é") 1276), (Value.str (Str.ofString "ö") 1277), (Value.str (Str.ofString "E") 1278), (Value.str (Str.ofString "S") 1279), (Value.str (Str.ofString "0") 1280), (Value.str (Str.ofString "-") 1281), (Value.str (Str.ofString "’") 1282)]) 0) (List.toArray []))
noncomputable def o1011 (E : Wd) : Obj := (Obj.mk Value.none Option.none (Data.func (FuncData.mk (Str.ofString "_law_vowels") (Str.ofString "_law_vowels") (fnA (topS 12)) (FuncBody.stmts (fnB (topS 12))) (fnC (topS 12)) 0 [] Value.none Value.none Value.none Value.none Option.none Value.none Value.none 0)) (List.toArray []))
noncomputable def o1012 (E : Wd) : Obj := (Obj.mk (Value.type "code") Option.none (Data.fields (List.toArray [(Value.str (Str.ofString "_law_vowels") 1284), (Value.str (Str.ofString "_law_vowels") 1285), (Value.str (Str.ofString "/claim/cut.py") 1286), (Value.int (345 : Int) 0), (Value.int (0 : Int) 0), (Value.int (0 : Int) 0), (Value.int (0 : Int) 0), (Value.int (3 : Int) 0), (Value.ref 446), (Value.bool Bool.true), (Value.int (181 : Int) 0), (Value.ref 447), Value.none, (Value.ref 448), (Value.ref 449), (Value.ref 450), (Value.int (1287 : Int) 0), (Value.int (345 : Int) 0), (Value.str (Str.ofString "/claim/cut.py") 1288)])) (List.toArray []))
noncomputable def o1013 (E : Wd) : Obj := (Obj.mk (Value.type "function") Option.none (Data.func (FuncData.mk (Str.ofString "_law_vowels") (Str.ofString "_law_vowels") (fnA (topS 12)) (FuncBody.stmts (fnB (topS 12))) (fnC (topS 12)) 3 [] Value.none Value.none Value.none (Value.str (Str.ofString "law_ip0001_01") 1244) Option.none (Value.ref 451) Value.none 0)) (List.toArray []))
noncomputable def o1014 (E : Wd) : Obj := (Obj.mk Value.none Option.none (Data.func (FuncData.mk (Str.ofString "_law_before") (Str.ofString "_law_before") (fnA (topS 12)) (FuncBody.stmts (fnB (topS 13))) (fnC (topS 12)) 0 [] Value.none Value.none Value.none Value.none Option.none Value.none Value.none 0)) (List.toArray []))
noncomputable def o1015 (E : Wd) : Obj := (Obj.mk (Value.type "code") Option.none (Data.fields (List.toArray [(Value.str (Str.ofString "_law_before") 1290), (Value.str (Str.ofString "_law_before") 1291), (Value.str (Str.ofString "/claim/cut.py") 1292), (Value.int (347 : Int) 0), (Value.int (0 : Int) 0), (Value.int (0 : Int) 0), (Value.int (0 : Int) 0), (Value.int (3 : Int) 0), (Value.ref 453), (Value.bool Bool.true), (Value.int (181 : Int) 0), (Value.ref 454), Value.none, (Value.ref 455), (Value.ref 456), (Value.ref 457), (Value.int (1293 : Int) 0), (Value.int (347 : Int) 0), (Value.str (Str.ofString "/claim/cut.py") 1294)])) (List.toArray []))
noncomputable def o1016 (E : Wd) : Obj := (Obj.mk (Value.type "function") Option.none (Data.func (FuncData.mk (Str.ofString "_law_before") (Str.ofString "_law_before") (fnA (topS 12)) (FuncBody.stmts (fnB (topS 13))) (fnC (topS 12)) 3 [] Value.none Value.none Value.none (Value.str (Str.ofString "law_ip0001_01") 1244) Option.none (Value.ref 458) Value.none 0)) (List.toArray []))
noncomputable def o1017 (E : Wd) : Obj := (Obj.mk Value.none Option.none (Data.func (FuncData.mk (Str.ofString "_law_doubled") (Str.ofString "_law_doubled") (fnA (topS 12)) (FuncBody.stmts (fnB (topS 14))) (fnC (topS 12)) 0 [] Value.none Value.none Value.none Value.none Option.none Value.none Value.none 0)) (List.toArray []))
noncomputable def o1018 (E : Wd) : Obj := (Obj.mk (Value.type "code") Option.none (Data.fields (List.toArray [(Value.str (Str.ofString "_law_doubled") 1296), (Value.str (Str.ofString "_law_doubled") 1297), (Value.str (Str.ofString "/claim/cut.py") 1298), (Value.int (349 : Int) 0), (Value.int (0 : Int) 0), (Value.int (0 : Int) 0), (Value.int (0 : Int) 0), (Value.int (3 : Int) 0), (Value.ref 460), (Value.bool Bool.true), (Value.int (181 : Int) 0), (Value.ref 461), Value.none, (Value.ref 462), (Value.ref 463), (Value.ref 464), (Value.int (1299 : Int) 0), (Value.int (349 : Int) 0), (Value.str (Str.ofString "/claim/cut.py") 1300)])) (List.toArray []))
noncomputable def o1019 (E : Wd) : Obj := (Obj.mk (Value.type "function") Option.none (Data.func (FuncData.mk (Str.ofString "_law_doubled") (Str.ofString "_law_doubled") (fnA (topS 12)) (FuncBody.stmts (fnB (topS 14))) (fnC (topS 12)) 3 [] Value.none Value.none Value.none (Value.str (Str.ofString "law_ip0001_01") 1244) Option.none (Value.ref 465) Value.none 0)) (List.toArray []))
noncomputable def o1020 (E : Wd) : Obj := (Obj.mk (Value.type "list") Option.none (Data.seq (List.toArray [(Value.str (Str.ofString "e") 1302), (Value.str (Str.ofString "en") 1303), (Value.str (Str.ofString "ende") 1304), (Value.str (Str.ofString "endes") 1305), (Value.str (Str.ofString "ene") 1306), (Value.str (Str.ofString "enes") 1307), (Value.str (Str.ofString "ens") 1308), (Value.str (Str.ofString "er") 1309), (Value.str (Str.ofString "ere") 1310), (Value.str (Str.ofString "ered") 1311), (Value.str (Str.ofString "erede") 1312), (Value.str (Str.ofString "eren") 1313), (Value.str (Str.ofString "erende") 1314), (Value.str (Str.ofString "erendes") 1315), (Value.str (Str.ofString "erens") 1316), (Value.str (Str.ofString "erer") 1317), (Value.str (Str.ofString "eres") 1318), (Value.str (Str.ofString "eret") 1319), (Value.str (Str.ofString "erets") 1320), (Value.str (Str.ofString "erne") 1321), (Value.str (Str.ofString "ernes") 1322), (Value.str (Str.ofString "ers") 1323), (Value.str (Str.ofString "es") 1324), (Value.str (Str.ofString "et") 1325), (Value.str (Str.ofString "ethed") 1326), (Value.str (Str.ofString "ets") 1327), (Value.str (Str.ofString "hed") 1328), (Value.str (Str.ofString "heden") 1329), (Value.str (Str.ofString "hedens") 1330), (Value.str (Str.ofString "heder") 1331), (Value.str (Str.ofString "heds") 1332), (Value.str (Str.ofString "s") 1333)]) 0) (List.toArray []))
noncomputable def o1021 (E : Wd) : Obj := (Obj.mk (Value.type "list") Option.none (Data.seq (List.toArray [(Value.str (Str.ofString "gd") 1335), (Value.str (Str.ofString "dt") 1336), (Value.str (Str.ofString "gt") 1337), (Value.str (Str.ofString "kt") 1338)]) 0) (List.toArray []))
noncomputable def o1022 (E : Wd) : Obj := (Obj.mk (Value.type "list") Option.none (Data.seq (List.toArray [(Value.str (Str.ofString "elig") 1340), (Value.str (Str.ofString "els") 1341), (Value.str (Str.ofString "ig") 1342), (Value.str (Str.ofString "lig") 1343), (Value.str (Str.ofString "løst") 1344)]) 0) (List.toArray []))
noncomputable def o1023 (E : Wd) : Obj := (Obj.mk (Value.type "list") Option.none (Data.seq (List.toArray [(Value.str (Str.ofString "igst") 1346), (Value.str (Str.ofString "st") 1347), (Value.str (Str.ofString "bb") 1348), (Value.str (Str.ofString "dd") 1349), (Value.str (Str.ofString "ff") 1350), (Value.str (Str.ofString "gg") 1351), (Value.str (Str.ofString "kk") 1352), (Value.str (Str.ofString "ll") 1353), (Value.str (Str.ofString "mm") 1354), (Value.str (Str.ofString "nn") 1355), (Value.str (Str.ofString "pp") 1356), (Value.str (Str.ofString "rr") 1357), (Value.str (Str.ofString "ss") 1358), (Value.str (Str.ofString "tt") 1359), (Value.str (Str.ofString "cc") 1360), (Value.str (Str.ofString "vv") 1361), (Value.str (Str.ofString "zz") 1362), (Value.str (Str.ofString "ligst") 1363), (Value.str (Str.ofString "igste") 1364), (Value.str (Str.ofString "eligste") 1365), (Value.str (Str.ofString "eligt") 1366), (Value.str (Str.ofString "else") 1367), (Value.str (Str.ofString "løste") 1368), (Value.str (Str.ofString "gdlig") 1369), (Value.str (Str.ofString "ktelig") 1370), (Value.str (Str.ofString "ddig") 1371), (Value.str (Str.ofString "s'") 1372), (Value.str (Str.ofString "'s") 1373), (Value.str (Str.ofString "krab") 1374), (Value.str (Str.ofString "frisk") 1375), (Value.str (Str.ofString "indbyg") 1376), (Value.str (Str.ofString "bestem") 1377), (Value.str (Str.ofString "arbejd") 1378), (Value.str (Str.ofString "af") 1379), (Value.str (Str.ofString "str") 1380), (Value.str (Str.ofString "by'") 1381), (Value.str (Str.ofString "ær") 1382)]) 0) (List.toArray []))
noncomputable def o1024 (E : Wd) : Obj := (Obj.mk (Value.type "list") Option.none (Data.seq (List.toArray [(Value.int (24 : Int) 1384), (Value.int (4 : Int) 1385), (Value.int (5 : Int) 1386), (Value.int (6 : Int) 1387), (Value.int (7 : Int) 1388), (Value.int (8 : Int) 1389), (Value.int (9 : Int) 1390), (Value.int (12 : Int) 1391)]) 0) (List.toArray []))
noncomputable def o1025 (E : Wd) : Obj := (Obj.mk (Value.type "tuple") Option.none (Data.seq (List.toArray [(Value.str (Str.ofString "word") 1396), (Value.str (Str.ofString "place") 1397), (Value.str (Str.ofString "met") 1398)]) 0) (List.toArray []))
noncomputable def o1026 (E : Wd) : Obj := (Obj.mk Value.none Option.none (Data.func (FuncData.mk (Str.ofString "_law_region") (Str.ofString "_law_region") (fnA (topS 20)) (FuncBody.stmts (fnB (topS 20))) (fnC (topS 20)) 0 [] Value.none Value.none Value.none Value.none Option.none Value.none Value.none 0)) (List.toArray []))
noncomputable def o1027 (E : Wd) : Obj := (Obj.mk (Value.type "code") Option.none (Data.fields (List.toArray [(Value.str (Str.ofString "_law_region") 1393), (Value.str (Str.ofString "_law_region") 1394), (Value.str (Str.ofString "/claim/cut.py") 1395), (Value.int (356 : Int) 0), (Value.int (1 : Int) 0), (Value.int (0 : Int) 0), (Value.int (0 : Int) 0), (Value.int (3 : Int) 0), (Value.ref 472), (Value.bool Bool.true), (Value.int (181 : Int) 0), (Value.ref 473), Value.none, (Value.ref 474), (Value.ref 475), (Value.ref 476), (Value.int (1399 : Int) 0), (Value.int (356 : Int) 0), (Value.str (Str.ofString "/claim/cut.py") 1400)])) (List.toArray []))
noncomputable def o1028 (E : Wd) : Obj := (Obj.mk (Value.type "function") Option.none (Data.func (FuncData.mk (Str.ofString "_law_region") (Str.ofString "_law_region") (fnA (topS 20)) (FuncBody.stmts (fnB (topS 20))) (fnC (topS 20)) 3 [] Value.none Value.none Value.none (Value.str (Str.ofString "law_ip0001_01") 1244) Option.none (Value.ref 477) Value.none 0)) (List.toArray []))
noncomputable def o1029 (E : Wd) : Obj := (Obj.mk (Value.type "tuple") Option.none (Data.seq (List.toArray [(Value.str (Str.ofString "text") 1405), (Value.str (Str.ofString "ends") 1406), (Value.str (Str.ofString "found") 1407), (Value.str (Str.ofString "end") 1408)]) 0) (List.toArray []))
noncomputable def o1030 (E : Wd) : Obj := (Obj.mk Value.none Option.none (Data.func (FuncData.mk (Str.ofString "_law_end") (Str.ofString "_law_end") (fnA (topS 21)) (FuncBody.stmts (fnB (topS 21))) (fnC (topS 21)) 0 [] Value.none Value.none Value.none Value.none Option.none Value.none Value.none 0)) (List.toArray []))
noncomputable def o1031 (E : Wd) : Obj := (Obj.mk (Value.type "code") Option.none (Data.fields (List.toArray [(Value.str (Str.ofString "_law_end") 1402), (Value.str (Str.ofString "_law_end") 1403), (Value.str (Str.ofString "/claim/cut.py") 1404), (Value.int (367 : Int) 0), (Value.int (2 : Int) 0), (Value.int (0 : Int) 0), (Value.int (0 : Int) 0), (Value.int (3 : Int) 0), (Value.ref 479), (Value.bool Bool.true), (Value.int (181 : Int) 0), (Value.ref 480), Value.none, (Value.ref 481), (Value.ref 482), (Value.ref 483), (Value.int (1409 : Int) 0), (Value.int (367 : Int) 0), (Value.str (Str.ofString "/claim/cut.py") 1410)])) (List.toArray []))
noncomputable def o1032 (E : Wd) : Obj := (Obj.mk (Value.type "function") Option.none (Data.func (FuncData.mk (Str.ofString "_law_end") (Str.ofString "_law_end") (fnA (topS 21)) (FuncBody.stmts (fnB (topS 21))) (fnC (topS 21)) 3 [] Value.none Value.none Value.none (Value.str (Str.ofString "law_ip0001_01") 1244) Option.none (Value.ref 484) Value.none 0)) (List.toArray []))
noncomputable def o1033 (E : Wd) : Obj := (Obj.mk (Value.type "tuple") Option.none (Data.seq (List.toArray [(Value.str (Str.ofString "word") 1415), (Value.str (Str.ofString "first") 1416)]) 0) (List.toArray []))
noncomputable def o1034 (E : Wd) : Obj := (Obj.mk Value.none Option.none (Data.func (FuncData.mk (Str.ofString "_law_pair") (Str.ofString "_law_pair") (fnA (topS 22)) (FuncBody.stmts (fnB (topS 22))) (fnC (topS 22)) 0 [] Value.none Value.none Value.none Value.none Option.none Value.none Value.none 0)) (List.toArray []))
noncomputable def o1035 (E : Wd) : Obj := (Obj.mk (Value.type "code") Option.none (Data.fields (List.toArray [(Value.str (Str.ofString "_law_pair") 1412), (Value.str (Str.ofString "_law_pair") 1413), (Value.str (Str.ofString "/claim/cut.py") 1414), (Value.int (373 : Int) 0), (Value.int (2 : Int) 0), (Value.int (0 : Int) 0), (Value.int (0 : Int) 0), (Value.int (3 : Int) 0), (Value.ref 486), (Value.bool Bool.true), (Value.int (181 : Int) 0), (Value.ref 487), Value.none, (Value.ref 488), (Value.ref 489), (Value.ref 490), (Value.int (1417 : Int) 0), (Value.int (373 : Int) 0), (Value.str (Str.ofString "/claim/cut.py") 1418)])) (List.toArray []))
noncomputable def o1036 (E : Wd) : Obj := (Obj.mk (Value.type "function") Option.none (Data.func (FuncData.mk (Str.ofString "_law_pair") (Str.ofString "_law_pair") (fnA (topS 22)) (FuncBody.stmts (fnB (topS 22))) (fnC (topS 22)) 3 [] Value.none Value.none Value.none (Value.str (Str.ofString "law_ip0001_01") 1244) Option.none (Value.ref 491) Value.none 0)) (List.toArray []))
noncomputable def o1037 (E : Wd) : Obj := (Obj.mk (Value.type "tuple") Option.none (Data.seq (List.toArray [(Value.str (Str.ofString "word") 1423), (Value.str (Str.ofString "first") 1424), (Value.str (Str.ofString "end") 1425), (Value.str (Str.ofString "stem") 1426), (Value.str (Str.ofString "last") 1427)]) 0) (List.toArray []))
noncomputable def o1038 (E : Wd) : Obj := (Obj.mk Value.none Option.none (Data.func (FuncData.mk (Str.ofString "_law_stem") (Str.ofString "_law_stem") (fnA (topS 23)) (FuncBody.stmts (fnB (topS 23))) (fnC (topS 23)) 0 [] Value.none Value.none Value.none Value.none Option.none Value.none Value.none 0)) (List.toArray []))
noncomputable def o1039 (E : Wd) : Obj := (Obj.mk (Value.type "code") Option.none (Data.fields (List.toArray [(Value.str (Str.ofString "_law_stem") 1420), (Value.str (Str.ofString "_law_stem") 1421), (Value.str (Str.ofString "/claim/cut.py") 1422), (Value.int (377 : Int) 0), (Value.int (1 : Int) 0), (Value.int (0 : Int) 0), (Value.int (0 : Int) 0), (Value.int (3 : Int) 0), (Value.ref 493), (Value.bool Bool.true), (Value.int (181 : Int) 0), (Value.ref 494), Value.none, (Value.ref 495), (Value.ref 496), (Value.ref 497), (Value.int (1428 : Int) 0), (Value.int (377 : Int) 0), (Value.str (Str.ofString "/claim/cut.py") 1429)])) (List.toArray []))
noncomputable def o1040 (E : Wd) : Obj := (Obj.mk (Value.type "function") Option.none (Data.func (FuncData.mk (Str.ofString "_law_stem") (Str.ofString "_law_stem") (fnA (topS 23)) (FuncBody.stmts (fnB (topS 23))) (fnC (topS 23)) 3 [] Value.none Value.none Value.none (Value.str (Str.ofString "law_ip0001_01") 1244) Option.none (Value.ref 498) Value.none 0)) (List.toArray []))
noncomputable def o1041 (E : Wd) : Obj := (Obj.mk Value.none Option.none (Data.func (FuncData.mk (Str.ofString "law") (Str.ofString "law") (fnA (topS 24)) (FuncBody.stmts (fnB (topS 24))) (fnC (topS 24)) 0 [] Value.none Value.none Value.none Value.none Option.none Value.none Value.none 0)) (List.toArray []))
noncomputable def o1042 (E : Wd) : Obj := (Obj.mk (Value.type "code") Option.none (Data.fields (List.toArray [(Value.str (Str.ofString "law") 1431), (Value.str (Str.ofString "law") 1432), (Value.str (Str.ofString "/claim/cut.py") 1433), (Value.int (399 : Int) 0), (Value.int (1 : Int) 0), (Value.int (0 : Int) 0), (Value.int (0 : Int) 0), (Value.int (3 : Int) 0), (Value.ref 500), (Value.bool Bool.true), (Value.int (181 : Int) 0), (Value.ref 501), Value.none, Value.none, Value.none, (Value.ref 502), (Value.int (1434 : Int) 0), (Value.int (399 : Int) 0), (Value.str (Str.ofString "/claim/cut.py") 1435)])) (List.toArray []))
noncomputable def o1043 (E : Wd) : Obj := (Obj.mk (Value.type "function") Option.none (Data.func (FuncData.mk (Str.ofString "law") (Str.ofString "law") (fnA (topS 24)) (FuncBody.stmts (fnB (topS 24))) (fnC (topS 24)) 3 [] Value.none Value.none Value.none (Value.str (Str.ofString "law_ip0001_01") 1244) Option.none (Value.ref 503) Value.none 0)) (List.toArray []))
noncomputable def n1044 (E : Wd) : BT := BT.node (boot_o_8 E.P) (n586 E) (n9 E)
noncomputable def n1045 (E : Wd) : BT := BT.node (o46 E) (n585 E) (n1044 E)
noncomputable def n1046 (E : Wd) : BT := BT.node (o990 E) BT.nil BT.nil
noncomputable def n1047 (E : Wd) : BT := BT.node (o100 E) (n589 E) (n1046 E)
noncomputable def n1048 (E : Wd) : BT := BT.node (o331 E) (n591 E) (n3 E)
noncomputable def n1049 (E : Wd) : BT := BT.node (boot_o_7 E.P) (n1047 E) (n1048 E)
noncomputable def n1050 (E : Wd) : BT := BT.node (o27 E) (n1045 E) (n1049 E)
noncomputable def n1051 (E : Wd) : BT := BT.node (o131 E) (n597 E) (n3 E)
noncomputable def n1052 (E : Wd) : BT := BT.node (boot_o_8 E.P) (n596 E) (n1051 E)
noncomputable def n1053 (E : Wd) : BT := BT.node (o1001 E) BT.nil BT.nil
noncomputable def n1054 (E : Wd) : BT := BT.node (o110 E) (n600 E) (n1053 E)
noncomputable def n1055 (E : Wd) : BT := BT.node (o1037 E) BT.nil BT.nil
noncomputable def n1056 (E : Wd) : BT := BT.node (o432 E) (n602 E) (n1055 E)
noncomputable def n1057 (E : Wd) : BT := BT.node (o73 E) (n1054 E) (n1056 E)
noncomputable def n1058 (E : Wd) : BT := BT.node (o36 E) (n1052 E) (n1057 E)
noncomputable def n1059 (E : Wd) : BT := BT.node (boot_o_7 E.P) (n1050 E) (n1058 E)
noncomputable def n1060 (E : Wd) : BT := BT.node (o126 E) (n610 E) (n3 E)
noncomputable def n1061 (E : Wd) : BT := BT.node (boot_o_7 E.P) (n609 E) (n1060 E)
noncomputable def n1062 (E : Wd) : BT := BT.node (o105 E) (n613 E) (n9 E)
noncomputable def n1063 (E : Wd) : BT := BT.node (setO E.Y) (n615 E) (n9 E)
noncomputable def n1064 (E : Wd) : BT := BT.node (o68 E) (n1062 E) (n1063 E)
noncomputable def n1065 (E : Wd) : BT := BT.node (boot_o_7 E.P) (n1061 E) (n1064 E)
noncomputable def n1066 (E : Wd) : BT := BT.node (boot_o_7 E.P) (n619 E) (n178 E)
noncomputable def n1067 (E : Wd) : BT := BT.node (o1024 E) BT.nil BT.nil
noncomputable def n1068 (E : Wd) : BT := BT.node (o136 E) (n621 E) (n1067 E)
noncomputable def n1069 (E : Wd) : BT := BT.node (o59 E) (n1066 E) (n1068 E)
noncomputable def n1070 (E : Wd) : BT := BT.node (boot_o_7 E.P) (n624 E) (n3 E)
noncomputable def n1071 (E : Wd) : BT := BT.node (o1042 E) BT.nil BT.nil
noncomputable def n1072 (E : Wd) : BT := BT.node (boot_o_7 E.P) (n626 E) (n1071 E)
noncomputable def n1073 (E : Wd) : BT := BT.node (o78 E) (n1070 E) (n1072 E)
noncomputable def n1074 (E : Wd) : BT := BT.node (o41 E) (n1069 E) (n1073 E)
noncomputable def n1075 (E : Wd) : BT := BT.node (o22 E) (n1065 E) (n1074 E)
noncomputable def n1076 (E : Wd) : BT := BT.node (boot_o_7 E.P) (n1059 E) (n1075 E)
noncomputable def n1077 (E : Wd) : BT := BT.node (o1012 E) BT.nil BT.nil
noncomputable def n1078 (E : Wd) : BT := BT.node (o122 E) (n635 E) (n1077 E)
noncomputable def n1079 (E : Wd) : BT := BT.node (boot_o_7 E.P) (n634 E) (n1078 E)
noncomputable def n1080 (E : Wd) : BT := BT.node (o985 E) BT.nil BT.nil
noncomputable def n1081 (E : Wd) : BT := BT.node (boot_o_8 E.P) (n638 E) (n1080 E)
noncomputable def n1082 (E : Wd) : BT := BT.node (o1030 E) BT.nil BT.nil
noncomputable def n1083 (E : Wd) : BT := BT.node (o428 E) (n640 E) (n1082 E)
noncomputable def n1084 (E : Wd) : BT := BT.node (boot_o_7 E.P) (n1081 E) (n1083 E)
noncomputable def n1085 (E : Wd) : BT := BT.node (o30 E) (n1079 E) (n1084 E)
noncomputable def n1086 (E : Wd) : BT := BT.node (o1020 E) BT.nil BT.nil
noncomputable def n1087 (E : Wd) : BT := BT.node (o133 E) (n647 E) (n1086 E)
noncomputable def n1088 (E : Wd) : BT := BT.node (o57 E) (n646 E) (n1087 E)
noncomputable def n1089 (E : Wd) : BT := BT.node (boot_o_7 E.P) (n650 E) (n3 E)
noncomputable def n1090 (E : Wd) : BT := BT.node (o1040 E) BT.nil BT.nil
noncomputable def n1091 (E : Wd) : BT := BT.node (boot_o_7 E.P) (n652 E) (n1090 E)
noncomputable def n1092 (E : Wd) : BT := BT.node (o75 E) (n1089 E) (n1091 E)
noncomputable def n1093 (E : Wd) : BT := BT.node (boot_o_8 E.P) (n1088 E) (n1092 E)
noncomputable def n1094 (E : Wd) : BT := BT.node (o19 E) (n1085 E) (n1093 E)
noncomputable def n1095 (E : Wd) : BT := BT.node (o1016 E) BT.nil BT.nil
noncomputable def n1096 (E : Wd) : BT := BT.node (o22 E) (n660 E) (n1095 E)
noncomputable def n1097 (E : Wd) : BT := BT.node (o52 E) (n659 E) (n1096 E)
noncomputable def n1098 (E : Wd) : BT := BT.node (o997 E) BT.nil BT.nil
noncomputable def n1099 (E : Wd) : BT := BT.node (o107 E) (n663 E) (n1098 E)
noncomputable def n1100 (E : Wd) : BT := BT.node (o1035 E) BT.nil BT.nil
noncomputable def n1101 (E : Wd) : BT := BT.node (o429 E) (n665 E) (n1100 E)
noncomputable def n1102 (E : Wd) : BT := BT.node (boot_o_8 E.P) (n1099 E) (n1101 E)
noncomputable def n1103 (E : Wd) : BT := BT.node (boot_o_7 E.P) (n1097 E) (n1102 E)
noncomputable def n1104 (E : Wd) : BT := BT.node (o987 E) BT.nil BT.nil
noncomputable def n1105 (E : Wd) : BT := BT.node (boot_o_7 E.P) (n669 E) (n1104 E)
noncomputable def n1106 (E : Wd) : BT := BT.node (o140 E) (n671 E) (n3 E)
noncomputable def n1107 (E : Wd) : BT := BT.node (o62 E) (n1105 E) (n1106 E)
noncomputable def n1108 (E : Wd) : BT := BT.node (o1008 E) BT.nil BT.nil
noncomputable def n1109 (E : Wd) : BT := BT.node (o116 E) (n674 E) (n1108 E)
noncomputable def n1110 (E : Wd) : BT := BT.node (boot_o_7 E.P) (n1109 E) (n677 E)
noncomputable def n1111 (E : Wd) : BT := BT.node (o43 E) (n1107 E) (n1110 E)
noncomputable def n1112 (E : Wd) : BT := BT.node (o25 E) (n1103 E) (n1111 E)
noncomputable def n1113 (E : Wd) : BT := BT.node (boot_o_7 E.P) (n1094 E) (n1112 E)
noncomputable def n1114 (E : Wd) : BT := BT.node (o983 E) (n1076 E) (n1113 E)
noncomputable def n1115 (E : Wd) : BT := BT.node (o120 E) (n685 E) (n3 E)
noncomputable def n1116 (E : Wd) : BT := BT.node (boot_o_8 E.P) (n684 E) (n1115 E)
noncomputable def n1117 (E : Wd) : BT := BT.node (o992 E) BT.nil BT.nil
noncomputable def n1118 (E : Wd) : BT := BT.node (o102 E) (n688 E) (n1117 E)
noncomputable def n1119 (E : Wd) : BT := BT.node (o1029 E) BT.nil BT.nil
noncomputable def n1120 (E : Wd) : BT := BT.node (o427 E) (n690 E) (n1119 E)
noncomputable def n1121 (E : Wd) : BT := BT.node (o65 E) (n1118 E) (n1120 E)
noncomputable def n1122 (E : Wd) : BT := BT.node (o28 E) (n1116 E) (n1121 E)
noncomputable def n1123 (E : Wd) : BT := BT.node (o1018 E) BT.nil BT.nil
noncomputable def n1124 (E : Wd) : BT := BT.node (boot_o_7 E.P) (n697 E) (n1123 E)
noncomputable def n1125 (E : Wd) : BT := BT.node (boot_o_7 E.P) (n696 E) (n1124 E)
noncomputable def n1126 (E : Wd) : BT := BT.node (boot_o_8 E.P) (n700 E) (n178 E)
noncomputable def n1127 (E : Wd) : BT := BT.node (o1038 E) BT.nil BT.nil
noncomputable def n1128 (E : Wd) : BT := BT.node (boot_o_8 E.P) (n702 E) (n1127 E)
noncomputable def n1129 (E : Wd) : BT := BT.node (boot_o_7 E.P) (n1126 E) (n1128 E)
noncomputable def n1130 (E : Wd) : BT := BT.node (o38 E) (n1125 E) (n1129 E)
noncomputable def n1131 (E : Wd) : BT := BT.node (o18 E) (n1122 E) (n1130 E)
noncomputable def n1132 (E : Wd) : BT := BT.node (o1014 E) BT.nil BT.nil
noncomputable def n1133 (E : Wd) : BT := BT.node (o128 E) (n710 E) (n1132 E)
noncomputable def n1134 (E : Wd) : BT := BT.node (o51 E) (n709 E) (n1133 E)
noncomputable def n1135 (E : Wd) : BT := BT.node (o996 E) BT.nil BT.nil
noncomputable def n1136 (E : Wd) : BT := BT.node (boot_o_7 E.P) (n713 E) (n1135 E)
noncomputable def n1137 (E : Wd) : BT := BT.node (boot_o_7 E.P) (n715 E) (n3 E)
noncomputable def n1138 (E : Wd) : BT := BT.node (o70 E) (n1136 E) (n1137 E)
noncomputable def n1139 (E : Wd) : BT := BT.node (o33 E) (n1134 E) (n1138 E)
noncomputable def n1140 (E : Wd) : BT := BT.node (o97 E) (n719 E) (n3 E)
noncomputable def n1141 (E : Wd) : BT := BT.node (o138 E) (n721 E) (n9 E)
noncomputable def n1142 (E : Wd) : BT := BT.node (o60 E) (n1140 E) (n1141 E)
noncomputable def n1143 (E : Wd) : BT := BT.node (o1006 E) BT.nil BT.nil
noncomputable def n1144 (E : Wd) : BT := BT.node (o115 E) (n724 E) (n1143 E)
noncomputable def n1145 (E : Wd) : BT := BT.node (boot_o_8 E.P) (n1144 E) (n727 E)
noncomputable def n1146 (E : Wd) : BT := BT.node (boot_o_7 E.P) (n1142 E) (n1145 E)
noncomputable def n1147 (E : Wd) : BT := BT.node (boot_o_7 E.P) (n1139 E) (n1146 E)
noncomputable def n1148 (E : Wd) : BT := BT.node (boot_o_9 E.P) (n1131 E) (n1147 E)
noncomputable def n1149 (E : Wd) : BT := BT.node (o426 E) (n734 E) (n3 E)
noncomputable def n1150 (E : Wd) : BT := BT.node (o49 E) (n733 E) (n1149 E)
noncomputable def n1151 (E : Wd) : BT := BT.node (o994 E) BT.nil BT.nil
noncomputable def n1152 (E : Wd) : BT := BT.node (boot_o_7 E.P) (n737 E) (n1151 E)
noncomputable def n1153 (E : Wd) : BT := BT.node (o1032 E) BT.nil BT.nil
noncomputable def n1154 (E : Wd) : BT := BT.node (o334 E) (n739 E) (n1153 E)
noncomputable def n1155 (E : Wd) : BT := BT.node (o67 E) (n1152 E) (n1154 E)
noncomputable def n1156 (E : Wd) : BT := BT.node (boot_o_8 E.P) (n1150 E) (n1155 E)
noncomputable def n1157 (E : Wd) : BT := BT.node (o1022 E) BT.nil BT.nil
noncomputable def n1158 (E : Wd) : BT := BT.node (o134 E) (n746 E) (n1157 E)
noncomputable def n1159 (E : Wd) : BT := BT.node (boot_o_7 E.P) (n745 E) (n1158 E)
noncomputable def n1160 (E : Wd) : BT := BT.node (o1003 E) BT.nil BT.nil
noncomputable def n1161 (E : Wd) : BT := BT.node (o113 E) (n749 E) (n1160 E)
noncomputable def n1162 (E : Wd) : BT := BT.node (o435 E) (n751 E) (n9 E)
noncomputable def n1163 (E : Wd) : BT := BT.node (o76 E) (n1161 E) (n1162 E)
noncomputable def n1164 (E : Wd) : BT := BT.node (boot_o_7 E.P) (n1159 E) (n1163 E)
noncomputable def n1165 (E : Wd) : BT := BT.node (o21 E) (n1156 E) (n1164 E)
noncomputable def n1166 (E : Wd) : BT := BT.node (boot_o_7 E.P) (n758 E) (n9 E)
noncomputable def n1167 (E : Wd) : BT := BT.node (o54 E) (n757 E) (n1166 E)
noncomputable def n1168 (E : Wd) : BT := BT.node (o999 E) BT.nil BT.nil
noncomputable def n1169 (E : Wd) : BT := BT.node (o108 E) (n761 E) (n1168 E)
noncomputable def n1170 (E : Wd) : BT := BT.node (o430 E) (n763 E) (n3 E)
noncomputable def n1171 (E : Wd) : BT := BT.node (boot_o_7 E.P) (n1169 E) (n1170 E)
noncomputable def n1172 (E : Wd) : BT := BT.node (o35 E) (n1167 E) (n1171 E)
noncomputable def n1173 (E : Wd) : BT := BT.node (o99 E) (n767 E) (n3 E)
noncomputable def n1174 (E : Wd) : BT := BT.node (o1027 E) BT.nil BT.nil
noncomputable def n1175 (E : Wd) : BT := BT.node (o142 E) (n769 E) (n1174 E)
noncomputable def n1176 (E : Wd) : BT := BT.node (boot_o_8 E.P) (n1173 E) (n1175 E)
noncomputable def n1177 (E : Wd) : BT := BT.node (o1010 E) BT.nil BT.nil
noncomputable def n1178 (E : Wd) : BT := BT.node (o118 E) (n772 E) (n1177 E)
noncomputable def n1179 (E : Wd) : BT := BT.node (o81 E) (n1178 E) (n775 E)
noncomputable def n1180 (E : Wd) : BT := BT.node (o44 E) (n1176 E) (n1179 E)
noncomputable def n1181 (E : Wd) : BT := BT.node (boot_o_7 E.P) (n1172 E) (n1180 E)
noncomputable def n1182 (E : Wd) : BT := BT.node (o1 E) (n1165 E) (n1181 E)
noncomputable def n1183 (E : Wd) : BT := BT.node (boot_o_5 E.P) (n1148 E) (n1182 E)
noncomputable def n1184 (E : Wd) : BT := BT.node (boot_o_1 E.P) (n1114 E) (n1183 E)
noncomputable def n1185 (E : Wd) : BT := BT.node (o119 E) (n785 E) (n3 E)
noncomputable def n1186 (E : Wd) : BT := BT.node (boot_o_7 E.P) (n784 E) (n1185 E)
noncomputable def n1187 (E : Wd) : BT := BT.node (o991 E) BT.nil BT.nil
noncomputable def n1188 (E : Wd) : BT := BT.node (o101 E) (n788 E) (n1187 E)
noncomputable def n1189 (E : Wd) : BT := BT.node (o22 E) (n790 E) (n9 E)
noncomputable def n1190 (E : Wd) : BT := BT.node (o64 E) (n1188 E) (n1189 E)
noncomputable def n1191 (E : Wd) : BT := BT.node (boot_o_7 E.P) (n1186 E) (n1190 E)
noncomputable def n1192 (E : Wd) : BT := BT.node (o1017 E) BT.nil BT.nil
noncomputable def n1193 (E : Wd) : BT := BT.node (o132 E) (n797 E) (n1192 E)
noncomputable def n1194 (E : Wd) : BT := BT.node (o55 E) (n796 E) (n1193 E)
noncomputable def n1195 (E : Wd) : BT := BT.node (boot_o_7 E.P) (n800 E) (n1080 E)
noncomputable def n1196 (E : Wd) : BT := BT.node (boot_o_7 E.P) (n802 E) (n3 E)
noncomputable def n1197 (E : Wd) : BT := BT.node (o74 E) (n1195 E) (n1196 E)
noncomputable def n1198 (E : Wd) : BT := BT.node (o37 E) (n1194 E) (n1197 E)
noncomputable def n1199 (E : Wd) : BT := BT.node (boot_o_8 E.P) (n1191 E) (n1198 E)
noncomputable def n1200 (E : Wd) : BT := BT.node (o127 E) (n809 E) (n3 E)
noncomputable def n1201 (E : Wd) : BT := BT.node (boot_o_8 E.P) (n808 E) (n1200 E)
noncomputable def n1202 (E : Wd) : BT := BT.node (o995 E) BT.nil BT.nil
noncomputable def n1203 (E : Wd) : BT := BT.node (o106 E) (n812 E) (n1202 E)
noncomputable def n1204 (E : Wd) : BT := BT.node (o1033 E) BT.nil BT.nil
noncomputable def n1205 (E : Wd) : BT := BT.node (setO E.Z) (n814 E) (n1204 E)
noncomputable def n1206 (E : Wd) : BT := BT.node (o69 E) (n1203 E) (n1205 E)
noncomputable def n1207 (E : Wd) : BT := BT.node (o32 E) (n1201 E) (n1206 E)
noncomputable def n1208 (E : Wd) : BT := BT.node (o986 E) BT.nil BT.nil
noncomputable def n1209 (E : Wd) : BT := BT.node (o96 E) (n818 E) (n1208 E)
noncomputable def n1210 (E : Wd) : BT := BT.node (o137 E) (n820 E) (n3 E)
noncomputable def n1211 (E : Wd) : BT := BT.node (boot_o_7 E.P) (n1209 E) (n1210 E)
noncomputable def n1212 (E : Wd) : BT := BT.node (o1005 E) BT.nil BT.nil
noncomputable def n1213 (E : Wd) : BT := BT.node (boot_o_8 E.P) (n823 E) (n1212 E)
noncomputable def n1214 (E : Wd) : BT := BT.node (o1043 E) BT.nil BT.nil
noncomputable def n1215 (E : Wd) : BT := BT.node (boot_o_8 E.P) (n825 E) (n1214 E)
noncomputable def n1216 (E : Wd) : BT := BT.node (boot_o_7 E.P) (n1213 E) (n1215 E)
noncomputable def n1217 (E : Wd) : BT := BT.node (o42 E) (n1211 E) (n1216 E)
noncomputable def n1218 (E : Wd) : BT := BT.node (o23 E) (n1207 E) (n1217 E)
noncomputable def n1219 (E : Wd) : BT := BT.node (boot_o_8 E.P) (n1199 E) (n1218 E)
noncomputable def n1220 (E : Wd) : BT := BT.node (o1013 E) BT.nil BT.nil
noncomputable def n1221 (E : Wd) : BT := BT.node (o123 E) (n834 E) (n1220 E)
noncomputable def n1222 (E : Wd) : BT := BT.node (o48 E) (n833 E) (n1221 E)
noncomputable def n1223 (E : Wd) : BT := BT.node (o103 E) (n837 E) (n178 E)
noncomputable def n1224 (E : Wd) : BT := BT.node (o1031 E) BT.nil BT.nil
noncomputable def n1225 (E : Wd) : BT := BT.node (o333 E) (n839 E) (n1224 E)
noncomputable def n1226 (E : Wd) : BT := BT.node (boot_o_8 E.P) (n1223 E) (n1225 E)
noncomputable def n1227 (E : Wd) : BT := BT.node (boot_o_7 E.P) (n1222 E) (n1226 E)
noncomputable def n1228 (E : Wd) : BT := BT.node (o1021 E) BT.nil BT.nil
noncomputable def n1229 (E : Wd) : BT := BT.node (boot_o_7 E.P) (n846 E) (n1228 E)
noncomputable def n1230 (E : Wd) : BT := BT.node (o58 E) (n845 E) (n1229 E)
noncomputable def n1231 (E : Wd) : BT := BT.node (o112 E) (n849 E) (n9 E)
noncomputable def n1232 (E : Wd) : BT := BT.node (o434 E) (n851 E) (n3 E)
noncomputable def n1233 (E : Wd) : BT := BT.node (boot_o_7 E.P) (n1231 E) (n1232 E)
noncomputable def n1234 (E : Wd) : BT := BT.node (o39 E) (n1230 E) (n1233 E)
noncomputable def n1235 (E : Wd) : BT := BT.node (o20 E) (n1227 E) (n1234 E)
noncomputable def n1236 (E : Wd) : BT := BT.node (o129 E) (n858 E) (n3 E)
noncomputable def n1237 (E : Wd) : BT := BT.node (o53 E) (n857 E) (n1236 E)
noncomputable def n1238 (E : Wd) : BT := BT.node (o998 E) BT.nil BT.nil
noncomputable def n1239 (E : Wd) : BT := BT.node (boot_o_7 E.P) (n861 E) (n1238 E)
noncomputable def n1240 (E : Wd) : BT := BT.node (o1036 E) BT.nil BT.nil
noncomputable def n1241 (E : Wd) : BT := BT.node (boot_o_7 E.P) (n863 E) (n1240 E)
noncomputable def n1242 (E : Wd) : BT := BT.node (o71 E) (n1239 E) (n1241 E)
noncomputable def n1243 (E : Wd) : BT := BT.node (boot_o_8 E.P) (n1237 E) (n1242 E)
noncomputable def n1244 (E : Wd) : BT := BT.node (o988 E) BT.nil BT.nil
noncomputable def n1245 (E : Wd) : BT := BT.node (boot_o_8 E.P) (n867 E) (n1244 E)
noncomputable def n1246 (E : Wd) : BT := BT.node (o1026 E) BT.nil BT.nil
noncomputable def n1247 (E : Wd) : BT := BT.node (o141 E) (n869 E) (n1246 E)
noncomputable def n1248 (E : Wd) : BT := BT.node (boot_o_7 E.P) (n1245 E) (n1247 E)
noncomputable def n1249 (E : Wd) : BT := BT.node (o1009 E) BT.nil BT.nil
noncomputable def n1250 (E : Wd) : BT := BT.node (o117 E) (n872 E) (n1249 E)
noncomputable def n1251 (E : Wd) : BT := BT.node (o80 E) (n1250 E) (n875 E)
noncomputable def n1252 (E : Wd) : BT := BT.node (boot_o_7 E.P) (n1248 E) (n1251 E)
noncomputable def n1253 (E : Wd) : BT := BT.node (o26 E) (n1243 E) (n1252 E)
noncomputable def n1254 (E : Wd) : BT := BT.node (o984 E) (n1235 E) (n1253 E)
noncomputable def n1255 (E : Wd) : BT := BT.node (boot_o_4 E.P) (n1219 E) (n1254 E)
noncomputable def n1256 (E : Wd) : BT := BT.node (o1011 E) BT.nil BT.nil
noncomputable def n1257 (E : Wd) : BT := BT.node (o121 E) (n884 E) (n1256 E)
noncomputable def n1258 (E : Wd) : BT := BT.node (o47 E) (n883 E) (n1257 E)
noncomputable def n1259 (E : Wd) : BT := BT.node (o993 E) BT.nil BT.nil
noncomputable def n1260 (E : Wd) : BT := BT.node (boot_o_7 E.P) (n887 E) (n1259 E)
noncomputable def n1261 (E : Wd) : BT := BT.node (boot_o_7 E.P) (n889 E) (n3 E)
noncomputable def n1262 (E : Wd) : BT := BT.node (o66 E) (n1260 E) (n1261 E)
noncomputable def n1263 (E : Wd) : BT := BT.node (o29 E) (n1258 E) (n1262 E)
noncomputable def n1264 (E : Wd) : BT := BT.node (o1019 E) BT.nil BT.nil
noncomputable def n1265 (E : Wd) : BT := BT.node (boot_o_8 E.P) (n896 E) (n1264 E)
noncomputable def n1266 (E : Wd) : BT := BT.node (o56 E) (n895 E) (n1265 E)
noncomputable def n1267 (E : Wd) : BT := BT.node (o1002 E) BT.nil BT.nil
noncomputable def n1268 (E : Wd) : BT := BT.node (o111 E) (n899 E) (n1267 E)
noncomputable def n1269 (E : Wd) : BT := BT.node (o1039 E) BT.nil BT.nil
noncomputable def n1270 (E : Wd) : BT := BT.node (o433 E) (n901 E) (n1269 E)
noncomputable def n1271 (E : Wd) : BT := BT.node (boot_o_8 E.P) (n1268 E) (n1270 E)
noncomputable def n1272 (E : Wd) : BT := BT.node (boot_o_7 E.P) (n1266 E) (n1271 E)
noncomputable def n1273 (E : Wd) : BT := BT.node (boot_o_7 E.P) (n1263 E) (n1272 E)
noncomputable def n1274 (E : Wd) : BT := BT.node (o1015 E) BT.nil BT.nil
noncomputable def n1275 (E : Wd) : BT := BT.node (boot_o_7 E.P) (n909 E) (n1274 E)
noncomputable def n1276 (E : Wd) : BT := BT.node (boot_o_7 E.P) (n908 E) (n1275 E)
noncomputable def n1277 (E : Wd) : BT := BT.node (boot_o_8 E.P) (n912 E) (n3 E)
noncomputable def n1278 (E : Wd) : BT := BT.node (o1034 E) BT.nil BT.nil
noncomputable def n1279 (E : Wd) : BT := BT.node (boot_o_8 E.P) (n914 E) (n1278 E)
noncomputable def n1280 (E : Wd) : BT := BT.node (boot_o_7 E.P) (n1277 E) (n1279 E)
noncomputable def n1281 (E : Wd) : BT := BT.node (o34 E) (n1276 E) (n1280 E)
noncomputable def n1282 (E : Wd) : BT := BT.node (o98 E) (n918 E) (n9 E)
noncomputable def n1283 (E : Wd) : BT := BT.node (o1025 E) BT.nil BT.nil
noncomputable def n1284 (E : Wd) : BT := BT.node (o139 E) (n920 E) (n1283 E)
noncomputable def n1285 (E : Wd) : BT := BT.node (o61 E) (n1282 E) (n1284 E)
noncomputable def n1286 (E : Wd) : BT := BT.node (o1007 E) BT.nil BT.nil
noncomputable def n1287 (E : Wd) : BT := BT.node (boot_o_7 E.P) (n923 E) (n1286 E)
noncomputable def n1288 (E : Wd) : BT := BT.node (o79 E) (n1287 E) (n926 E)
noncomputable def n1289 (E : Wd) : BT := BT.node (boot_o_8 E.P) (n1285 E) (n1288 E)
noncomputable def n1290 (E : Wd) : BT := BT.node (o24 E) (n1281 E) (n1289 E)
noncomputable def n1291 (E : Wd) : BT := BT.node (boot_o_10 E.P) (n1273 E) (n1290 E)
noncomputable def n1292 (E : Wd) : BT := BT.node (o125 E) (n933 E) (n9 E)
noncomputable def n1293 (E : Wd) : BT := BT.node (o50 E) (n932 E) (n1292 E)
noncomputable def n1294 (E : Wd) : BT := BT.node (o104 E) (n936 E) (n3 E)
noncomputable def n1295 (E : Wd) : BT := BT.node (setO E.X) (n938 E) (n3 E)
noncomputable def n1296 (E : Wd) : BT := BT.node (boot_o_7 E.P) (n1294 E) (n1295 E)
noncomputable def n1297 (E : Wd) : BT := BT.node (o31 E) (n1293 E) (n1296 E)
noncomputable def n1298 (E : Wd) : BT := BT.node (o95 E) (n942 E) (n1080 E)
noncomputable def n1299 (E : Wd) : BT := BT.node (o1023 E) BT.nil BT.nil
noncomputable def n1300 (E : Wd) : BT := BT.node (o135 E) (n944 E) (n1299 E)
noncomputable def n1301 (E : Wd) : BT := BT.node (boot_o_8 E.P) (n1298 E) (n1300 E)
noncomputable def n1302 (E : Wd) : BT := BT.node (o1004 E) BT.nil BT.nil
noncomputable def n1303 (E : Wd) : BT := BT.node (o114 E) (n947 E) (n1302 E)
noncomputable def n1304 (E : Wd) : BT := BT.node (o1041 E) BT.nil BT.nil
noncomputable def n1305 (E : Wd) : BT := BT.node (o436 E) (n949 E) (n1304 E)
noncomputable def n1306 (E : Wd) : BT := BT.node (o77 E) (n1303 E) (n1305 E)
noncomputable def n1307 (E : Wd) : BT := BT.node (o40 E) (n1301 E) (n1306 E)
noncomputable def n1308 (E : Wd) : BT := BT.node (boot_o_7 E.P) (n1297 E) (n1307 E)
noncomputable def n1309 (E : Wd) : BT := BT.node (o130 E) (n957 E) (n3 E)
noncomputable def n1310 (E : Wd) : BT := BT.node (boot_o_7 E.P) (n956 E) (n1309 E)
noncomputable def n1311 (E : Wd) : BT := BT.node (o1000 E) BT.nil BT.nil
noncomputable def n1312 (E : Wd) : BT := BT.node (o109 E) (n960 E) (n1311 E)
noncomputable def n1313 (E : Wd) : BT := BT.node (o431 E) (n962 E) (n9 E)
noncomputable def n1314 (E : Wd) : BT := BT.node (o72 E) (n1312 E) (n1313 E)
noncomputable def n1315 (E : Wd) : BT := BT.node (boot_o_7 E.P) (n1310 E) (n1314 E)
noncomputable def n1316 (E : Wd) : BT := BT.node (o989 E) BT.nil BT.nil
noncomputable def n1317 (E : Wd) : BT := BT.node (boot_o_7 E.P) (n966 E) (n1316 E)
noncomputable def n1318 (E : Wd) : BT := BT.node (o1028 E) BT.nil BT.nil
noncomputable def n1319 (E : Wd) : BT := BT.node (o143 E) (n968 E) (n1318 E)
noncomputable def n1320 (E : Wd) : BT := BT.node (o63 E) (n1317 E) (n1319 E)
noncomputable def n1321 (E : Wd) : BT := BT.node (boot_o_7 E.P) (n971 E) (n3 E)
noncomputable def n1322 (E : Wd) : BT := BT.node (o82 E) (n1321 E) (n974 E)
noncomputable def n1323 (E : Wd) : BT := BT.node (o45 E) (n1320 E) (n1322 E)
noncomputable def n1324 (E : Wd) : BT := BT.node (boot_o_8 E.P) (n1315 E) (n1323 E)
noncomputable def n1325 (E : Wd) : BT := BT.node (o2 E) (n1308 E) (n1324 E)
noncomputable def n1326 (E : Wd) : BT := BT.node (boot_o_6 E.P) (n1291 E) (n1325 E)
noncomputable def n1327 (E : Wd) : BT := BT.node (o982 E) (n1255 E) (n1326 E)
noncomputable def n1328 (E : Wd) : BT := BT.node (boot_o_0 E.P) (n1184 E) (n1327 E)
noncomputable def S25_t (E : Wd) : BT := (n1328 E)
noncomputable def S25 (E : Wd) (os : OsState) : SharedT := SharedT.mk (S25_t E) 505 lifeH (Array.mk []) (Drawn.mk 0 0 0 0) 1437 os
theorem T1 (w : World) (os : OsState) (X Y Z : SetP) : segRunT treeTable pw w 11 (some (.ref 6)) 1 1196 (S7 ⟨w.params, X, Y, Z⟩ os) ⟨(execs (dropS 7 (behindTheImports pw)) envT).wrap doneF deadEnd id id, cT, ⟨167, 0, 336, 115⟩, [topFrame q0]⟩ = some (.next, S25 ⟨w.params, X, Y, Z⟩ os, cT, ⟨399, 0, 410, 69⟩) := by
  exact byG (by kernel_rfl)
-- the end: pos ⟨399, 0, 410, 69⟩, fin steps 1 toks 1437 objs 505; pre steps 12, block pos ⟨0, 0, 0, 0⟩, pre pos ⟨0, 0, 0, 0⟩
end DaHead
open PySem PySem.W PyProof.Rows
set_option Elab.async false
set_option linter.unusedVariables false
set_option maxRecDepth 100000
namespace DaHead

section
variable {tb : String → Option Builtin} {p : Program} {w : World} {n₀ : Nat} {ann : Option Value} {b : Nat}
theorem run_more (k : Nat) : ∀ (n : Nat) (s : Shared) (t : Thread) (r : Flow × Shared × Code × Pos), segRun tb p w n₀ ann b n s t = some r → segRun tb p w n₀ ann b (n + k) s t = some r
  | 0, _, _, _, h => by simp [segRun] at h
  | n + 1, s, t, r, h => by
    rw [show n + 1 + k = (n + k) + 1 by omega]
    unfold segRun at h ⊢
    cases he : endAt b t with
    | some f => rw [he] at h; exact h
    | none =>
      rw [he] at h
      cases hk : stepOk n₀ ann t with
      | false => rw [hk] at h; cases h
      | true =>
        rw [hk] at h
        cases hs : step (denote tb) p w s t with
        | halt o s' => rw [hs] at h; cases h
        | go s' t' => rw [hs] at h; exact run_more k n s' t' r h
theorem run_le {n m : Nat} {s : Shared} {t : Thread} {r : Flow × Shared × Code × Pos} (h : segRun tb p w n₀ ann b n s t = some r) (hl : n ≤ m) : segRun tb p w n₀ ann b m s t = some r := by
  have := run_more (m - n) n s t r h
  rwa [show n + (m - n) = m by omega] at this
theorem end_off {t : Thread} (h : b < t.stack.length) : endAt b t = none := by
  unfold endAt
  rw [show (t.stack.length == b) = false from beq_eq_false_iff_ne.mpr (by omega)]
theorem run_step {N : Nat} {s s₁ : Shared} {t t₁ : Thread} {r : Flow × Shared × Code × Pos} (hb : b < t.stack.length) (hk : stepOk n₀ ann t = true) (hs : step (denote tb) p w s t = .go s₁ t₁)
    (h : segRun tb p w n₀ ann b N s₁ t₁ = some r) : segRun tb p w n₀ ann b (N + 1) s t = some r := by
  unfold segRun; rw [end_off hb, hk, hs]; exact h

variable {α : Type} {B : List Frame} {K' : α → Sem Fin} {H' : Value → Sem Fin} {gd : Bool → Bool} {lv : List Value → List Value} {res : α → Flow}
/-- a run above B, seen from below -/
theorem run_in (hB : splitAtGen B = none) (hb : b < B.length) : ∀ (n : Nat) (s : Shared) (t t' : Thread) (f : Flow) (s' : Shared) (c' : Code) (p' : Pos), Rel2 (fun a => .pure (.done (res a))) K' deadEnd H' gd lv B t t' →
    segRun tb p w n₀ ann B.length n s t = some (f, s', c', p') → ∃ a, res a = f ∧ ∀ N r, segRun tb p w n₀ ann b N s' ⟨K' a, c', p', B⟩ = some r → segRun tb p w n₀ ann b (n + N) s t' = some r
  | 0, _, _, _, _, _, _, _, _, h => by simp [segRun] at h
  | n + 1, s, ⟨cur, code, pos, st⟩, ⟨cur', code', pos', st'⟩, f, s', c', p', R, h => by
    obtain ⟨e1, e2, R⟩ := R
    dsimp only at e1 e2 R
    subst e1 e2
    unfold segRun at h
    cases he : endAt B.length ⟨cur, code, pos, st⟩ with
    | some g =>
      rw [he] at h
      obtain ⟨rfl, rfl, rfl, rfl⟩ : g = f ∧ s = s' ∧ code = c' ∧ pos = p' := by simpa using h
      rcases R with ⟨rfl, rfl, x, rfl, rfl⟩ | ⟨rfl, F⟩
      · have hx : ∃ a, x = .pure a ∧ res a = g := by
          cases x with
          | pure a => simp only [endAt, Sem.wrap, beq_self_eq_true, Option.some.injEq] at he; exact ⟨a, rfl, he⟩
          | _ => simp [endAt, Sem.wrap] at he
        obtain ⟨a, rfl, rfl⟩ := hx
        exact ⟨a, rfl, fun N r hN => run_le hN (by omega)⟩
      · have l := F.longer.1
        rw [end_off l] at he
        cases he
    | none =>
      rw [he] at h
      cases hk : stepOk n₀ ann ⟨cur, code, pos, st⟩ with
      | false => rw [hk] at h; cases h
      | true =>
        rw [hk] at h
        cases hs : step (denote tb) p w s ⟨cur, code, pos, st⟩ with
        | halt o s₂ => rw [hs] at h; cases h
        | go s₂ t₂ =>
          rw [hs] at h
          have key : b < st'.length ∧ stepOk n₀ ann ⟨cur', code, pos, st'⟩ = true ∧ ∃ t₂', step (denote tb) p w s ⟨cur', code, pos, st'⟩ = .go s₂ t₂' ∧ Rel2 (fun a => .pure (.done (res a))) K' deadEnd H' gd lv B t₂ t₂' := by
            rcases R with ⟨rfl, rfl, x, rfl, rfl⟩ | ⟨rfl, F⟩
            · have hp : ∀ a, x ≠ .pure a := by
                rintro a rfl
                simp [endAt, Sem.wrap] at he
              have hr : ∀ e, x ≠ .raise e := by
                rintro e rfl
                obtain ⟨heap, gens, drawn, toks, os⟩ := s
                simp only [Sem.wrap, step] at hs
                cases hs
              obtain ⟨k1, _⟩ := okOuter (K' := K') (H' := H') hp hr hk
              exact ⟨hb, k1, step_outer hB hp hs⟩
            · obtain ⟨k1, _⟩ := okInner hB F hk
              exact ⟨Nat.lt_trans hb F.longer.2, k1, step_inner hB F hs⟩
          obtain ⟨k0, k1, t₂', k3, R'⟩ := key
          obtain ⟨a, ha, hN⟩ := run_in hB hb n s₂ t₂ t₂' f s' c' p' R' h
          exact ⟨a, ha, fun N r q => by
            rw [show n + 1 + N = (n + N) + 1 by omega]
            exact run_step k0 k1 k3 (hN N r q)⟩
end

theorem lt2 {w : World} {os : OsState} : 1 < (B2 w os).length := Nat.lt_succ_self 1
/-- a tree goes, in the class's body, from a state to a state -/
noncomputable def Goes (w : World) (os : OsState) (gd : Bool → Bool) (lv : List Value → List Value) {α : Type} (m : Sem α) (n : Nat) (p : Pos) (s : Shared) (a : α) (p' : Pos) (s' : Shared) : Prop :=
  ∀ (K : α → Sem Fin) (H : Value → Sem Fin) (N : Nat) (r : Flow × Shared × Code × Pos), segRun treeTable pw w 11 (some (.ref 6)) 1 N s' ⟨K a, cC, p', B2 w os⟩ = some r →
    segRun treeTable pw w 11 (some (.ref 6)) 1 (n + N) s ⟨m.wrap K H gd lv, cC, p, B2 w os⟩ = some r

section
variable {w : World} {os : OsState} {gd : Bool → Bool} {lv : List Value → List Value} {α β : Type} {m : Sem α} {n n₁ n₂ : Nat} {p p₁ p₂ p' : Pos} {s s₁ s₂ s' : Shared} {a : α} {b : β}
theorem Goes.of_run {S S' : SharedT} (res : α → Flow) (inj : ∀ x, res x = res a → x = a)
    (h : segRunT treeTable pw w 11 (some (.ref 6)) 2 n S ⟨m.wrap (fun a => .pure (.done (res a))) deadEnd gd lv, cC, p, B2 w os⟩ = some (res a, S', cC, p')) : Goes w os gd lv m n p S.abs a p' S'.abs := fun K H N r k => by
  obtain ⟨a', ha, hN⟩ := run_in (b := 1) (B := B2 w os) (K' := K) (H' := H) rfl lt2 n S.abs ⟨m.wrap (fun a => .pure (.done (res a))) deadEnd gd lv, cC, p, B2 w os⟩ ⟨m.wrap K H gd lv, cC, p, B2 w os⟩ _ _ _ _ ⟨rfl, rfl, .inl ⟨rfl, rfl, m, rfl, rfl⟩⟩ (segRun_of h)
  obtain rfl := inj a' ha
  exact hN N r k
theorem Goes.pure : Goes w os gd lv (Pure.pure a : Sem α) 0 p s a p s := fun K H N r k => by rw [Nat.zero_add]; exact k
theorem Goes.le (h : Goes w os gd lv m n p s a p' s') (l : n ≤ n₁) : Goes w os gd lv m n₁ p s a p' s' := fun K H N r k => run_le (h K H N r k) (by omega)
theorem Goes.bind {f : α → Sem β} (h : Goes w os gd lv m n₁ p s a p₁ s₁) (k : Goes w os gd lv (f a) n₂ p₁ s₁ b p₂ s₂) : Goes w os gd lv (m >>= f) (n₁ + n₂) p s b p₂ s₂ := fun K H N r q => by
  rw [Sem.bind_eq_wrap', Sem.wrap_wrap, Nat.add_assoc]
  exact h _ _ _ r (k K H N r q)
theorem Goes.keep {vs : List Value} (h : Goes w os gd (fun l => lv (vs ++ l)) m n p s a p' s') : Goes w os gd lv (m.keep vs) n p s a p' s' := fun K H N r q => by
  rw [Sem.keep_eq_wrap, Sem.wrap_wrap]
  exact h _ _ _ r q
theorem Goes.holding_str {x : Str} {tk : Tok} (h : Goes w os gd lv m n p s a p' s') : Goes w os gd lv (holding [.str x tk] m) n p s a p' s' := h
theorem Goes.holding_ref {c : Addr} (h : Goes w os gd (fun l => lv ([.ref c] ++ l)) m n p s a p' s') : Goes w os gd lv (holding [.ref c] m) n p s a p' s' := Goes.keep h
theorem Goes.rule {t : String} {f : Unit → Sem α} (h : Goes w os gd lv (f ()) n p s a p' s') : Goes w os gd lv (PySem.rule t >>= f) (n + 1) p s a p' s' := fun K H N r q => by
  rw [show n + 1 + N = (n + N) + 1 by omega]
  exact run_step lt2 rfl rfl (h K H N r q)
theorem Goes.at {q : Pos} {f : Unit → Sem α} (h : Goes w os gd lv (f ()) n q s a p' s') : Goes w os gd lv (standAt q >>= f) (n + 1) p s a p' s' := fun K H N r z => by
  rw [show n + 1 + N = (n + N) + 1 by omega]
  exact run_step lt2 rfl rfl (h K H N r z)
theorem Goes.ask {f : Setting → Sem α} (h : Goes w os gd lv (f ⟨pw, w.params⟩) n p s a p' s') : Goes w os gd lv (PySem.ask >>= f) (n + 1) p s a p' s' := fun K H N r z => by
  rw [show n + 1 + N = (n + N) + 1 by omega]
  exact run_step lt2 rfl rfl (h K H N r z)
theorem Goes.load {c : Addr} {o : Obj} {f : Obj → Sem α} (e : s.heap.get? c = some o) (h : Goes w os gd lv (f o) n p s a p' s') : Goes w os gd lv (PySem.load c >>= f) (n + 1) p s a p' s' := fun K H N r z => by
  rw [show n + 1 + N = (n + N) + 1 by omega]
  refine run_step lt2 rfl ?_ (h K H N r z)
  obtain ⟨hp, g, d, tk, o'⟩ := s
  simp only [PySem.load, Bind.bind, Sem.bind, Sem.wrap, step, e]
theorem Goes.update {c : Addr} {o : Obj} {g : Obj → Obj} {f : Unit → Sem α} (hc : 11 ≤ c) (e : s.heap.get? c = some o) (h : Goes w os gd lv (f ()) n p { s with heap := s.heap.update c g } a p' s') : Goes w os gd lv (PySem.update c g >>= f) (n + 1) p s a p' s' := fun K H N r z => by
  rw [show n + 1 + N = (n + N) + 1 by omega]
  refine run_step lt2 ?_ ?_ (h K H N r z)
  · show (_ && _) = true
    simp only [PySem.update, Bind.bind, Sem.bind, Sem.wrap]
    rw [show Nat.ble 11 c = true from Nat.ble_eq_true_of_le hc]
    rfl
  · obtain ⟨hp, g, d, tk, o'⟩ := s
    simp only [PySem.update, Bind.bind, Sem.bind, Sem.wrap, step, e, Option.isSome_some, if_true]
end
end DaHead
open PySem PySem.W PyProof.Rows
set_option Elab.async false
set_option linter.unusedVariables false
set_option maxRecDepth 100000
namespace DaHead

/-- the set's entries bear these texts, each once -/
structure Bears (L : List Str) (x : SetP) : Prop where
  fits : x.t.fits x.es.size = true
  size : x.es.size = L.length
  sound : ∀ e ∈ x.es.toList, ∃ s tok, e.2 = .str s tok ∧ s ∈ L
  whole : ∀ s ∈ L, ∃ e ∈ x.es.toList, ∃ tok, e.2 = .str s tok

noncomputable def unplain (t : SetTable) : SetTable := if t.plain then { t with plain := false } else t
noncomputable def fullP (h : Int) (v : Value) (x : SetP) : Bool := !(layNew x.t x.es h v).2.2.1 && (unplain (layNew x.t x.es h v).2.1).tooFull
noncomputable def oneP (h : Int) (v : Value) (x : SetP) : SetP := ⟨(layNew x.t x.es h v).1, x.n + 1, unplain (layNew x.t x.es h v).2.1⟩
noncomputable def twoP (x : SetP) : SetP := ⟨(relayAll x.t x.es (SetTable.grown x.es.size)).1, x.n + 1, (relayAll x.t x.es (SetTable.grown x.es.size)).2.1⟩
noncomputable def addP (h : Int) (v : Value) (x : SetP) : SetP := if fullP h v x = true then twoP (oneP h v x) else oneP h v x
noncomputable def unledP (x : SetP) : SetP := ⟨x.es, x.n + 1, { x.t with led := false }⟩

theorem fits_standIn (t : SetTable) (n : Nat) : (t.standIn n).fits n = true := by
  unfold SetTable.standIn SetTable.fits SetTable.fill
  simp
  omega
theorem fits_or (t : SetTable) (n : Nat) : (t.orStandIn n).fits n = true := by
  unfold SetTable.orStandIn
  split
  · assumption
  · exact fits_standIn t n
theorem fits_plain {t : SetTable} {n : Nat} (h : t.fits n = true) : (unplain t).fits n = true := by
  unfold unplain
  split
  · exact h
  · exact h
theorem layNew_fits (t : SetTable) (es : Array (Int × Value)) (h : Int) (v : Value) : (layNew t es h v).2.1.fits (layNew t es h v).1.size = true := by
  unfold layNew
  split
  · exact fits_or _ _
  · simp only [Array.size_push]; exact fits_standIn _ _
theorem mem_insertAt {α : Type} (xs : Array α) (p : Nat) (x y : α) : y ∈ (SetTable.insertAt xs p x).toList ↔ y = x ∨ y ∈ xs.toList := by
  unfold SetTable.insertAt
  obtain ⟨l⟩ := xs
  simp only [Array.toList_append, Array.toList_push, Array.toList_extract, List.mem_append, List.mem_singleton, List.extract_eq_take_drop, List.drop_zero, Nat.sub_zero, List.size_toArray]
  have e : List.take (l.length - p) (List.drop p l) = List.drop p l := List.take_of_length_le (by simp)
  rw [e]
  constructor
  · rintro ((h | h) | h)
    · exact .inr (List.mem_of_mem_take h)
    · exact .inl h
    · exact .inr (List.mem_of_mem_drop h)
  · rintro (h | h)
    · exact .inl (.inr h)
    · rw [← List.take_append_drop p l] at h
      rcases List.mem_append.mp h with h | h
      · exact .inl (.inl h)
      · exact .inr h
theorem size_insertAt {α : Type} (xs : Array α) (p : Nat) (x : α) : (SetTable.insertAt xs p x).size = xs.size + 1 := by
  unfold SetTable.insertAt
  simp only [Array.size_append, Array.size_push, Array.size_extract]
  omega
theorem layNew_mem (t : SetTable) (es : Array (Int × Value)) (h : Int) (v : Value) (y : Int × Value) : y ∈ (layNew t es h v).1.toList ↔ y = (h, v) ∨ y ∈ es.toList := by
  unfold layNew
  split
  · exact mem_insertAt _ _ _ _
  · simp only [Array.toList_push, List.mem_append, List.mem_singleton]; exact Or.comm
theorem layNew_size (t : SetTable) (es : Array (Int × Value)) (h : Int) (v : Value) : (layNew t es h v).1.size = es.size + 1 := by
  unfold layNew
  split
  · exact size_insertAt _ _ _
  · exact Array.size_push _
theorem filterMap_range (es : Array (Int × Value)) : (List.range es.size).filterMap (es[·]?) = es.toList := by
  apply List.ext_getElem?
  intro i
  have : ∀ n, n ≤ es.size → (List.range n).filterMap (es[·]?) = es.toList.take n := by
    intro n
    induction n with
    | zero => intro _; simp
    | succ n ih =>
      intro hn
      rw [List.range_succ, List.filterMap_append, ih (by omega)]
      have hlt : n < es.size := by omega
      simp only [List.filterMap_cons, List.filterMap_nil, Array.getElem?_eq_getElem hlt]
      rw [List.take_add_one]
      congr 1
      rw [Array.getElem?_toList, Array.getElem?_eq_getElem hlt]
      rfl
  rw [this es.size (Nat.le_refl _), List.take_of_length_le (by simp)]
theorem relay_perm (order : Array Nat) (es : Array (Int × Value)) (h : coversAll order es.size = true) : List.Perm (order.filterMap (es[·]?)).toList es.toList := by
  unfold coversAll at h
  have := (List.isPerm_iff.mp h).filterMap (es[·]?)
  rw [filterMap_range] at this
  rw [Array.toList_filterMap]
  exact this
theorem relayAll_ok (t : SetTable) (es : Array (Int × Value)) (k : Nat) : (relayAll t es k).2.1.fits (relayAll t es k).1.size = true ∧ List.Perm (relayAll t es k).1.toList es.toList := by
  unfold relayAll
  split
  · dsimp only
    split
    · rename_i h
      obtain ⟨h1, h2⟩ := Bool.and_eq_true_iff.mp h
      have P := relay_perm _ _ h1
      exact ⟨(congrArg (SetTable.fits _) (by simpa using P.length_eq)).trans h2, P⟩
    · exact ⟨fits_standIn _ _, .refl _⟩
  · exact ⟨fits_standIn _ _, .refl _⟩

theorem addP_bears {L : List Str} {x : SetP} {h : Int} {s : Str} {tok : Tok} (b : Bears L x) : Bears (s :: L) (addP h (.str s tok) x) := by
  have m := layNew_mem x.t x.es h (.str s tok)
  have z := layNew_size x.t x.es h (.str s tok)
  have f := layNew_fits x.t x.es h (.str s tok)
  have go : ∀ (es : Array (Int × Value)) (n : Nat) (t : SetTable), t.fits es.size = true → List.Perm es.toList (layNew x.t x.es h (.str s tok)).1.toList → Bears (s :: L) ⟨es, n, t⟩ := by
    intro es n t ft P
    refine ⟨ft, ?_, fun e he => ?_, fun y hy => ?_⟩
    · have := P.length_eq
      simp only [Array.length_toList] at this
      show es.size = _
      rw [this, z, b.size]; rfl
    · rcases (m e).mp (P.mem_iff.mp he) with rfl | q
      · exact ⟨s, tok, rfl, .head _⟩
      · obtain ⟨a, c, d, i⟩ := b.sound e q
        exact ⟨a, c, d, .tail _ i⟩
    · rcases List.mem_cons.mp hy with rfl | q
      · exact ⟨_, P.mem_iff.mpr ((m _).mpr (.inl rfl)), tok, rfl⟩
      · obtain ⟨e, he, c, d⟩ := b.whole y q
        exact ⟨e, P.mem_iff.mpr ((m _).mpr (.inr he)), c, d⟩
  unfold addP
  split
  · obtain ⟨r1, r2⟩ := relayAll_ok (oneP h (.str s tok) x).t (oneP h (.str s tok) x).es (SetTable.grown (oneP h (.str s tok) x).es.size)
    exact go _ _ _ r1 r2
  · exact go _ _ _ (fits_plain f) (.refl _)
theorem unled_bears {L : List Str} {x : SetP} (b : Bears L x) : Bears L (unledP x) := ⟨b.fits, b.size, b.sound, b.whole⟩


/-- where a set is built: the states by the set's parts and the token count -/
structure Site (w : World) (os : OsState) (a : Addr) (St : SetP → Nat → Shared) : Prop where
  low : 11 ≤ a
  get : ∀ x k, (St x k).heap.get? a = some (setO x)
  put : ∀ x k f y, f (setO x) = setO y → { St x k with heap := (St x k).heap.update a f } = St y k
noncomputable def hashOf (w : World) (s : Str) : Int := if s.cps.isEmpty then 0 else reduceHash (w.params.strHash s.cps)

section
variable {w : World} {os : OsState} {gd : Bool → Bool} {lv : List Value → List Value} {α β : Type} {m : Sem α} {n n₁ n₂ : Nat} {p p₁ p₂ p' : Pos} {s s₁ s₂ s' : Shared} {a : Addr} {b : β} {St : SetP → Nat → Shared} {x : SetP} {k : Nat}
theorem setState_goes (T : Site w os a St) (f : x.t.fits x.es.size = true) : Goes w os gd lv (setState a) 1 p (St x k) (x.es, x.n, x.t) p (St x k) := by
  unfold setState
  refine Goes.load (T.get x k) ?_
  obtain ⟨f1, f2⟩ := Bool.and_eq_true_iff.mp f
  show Goes w os gd lv (if (x.t.place.size != x.es.size || decide (x.t.fill > x.t.mask)) = true then _ else _) _ _ _ _ _ _
  rw [if_neg ?_]
  · exact Goes.pure
  · have h1 : x.t.place.size = x.es.size := by simpa using f1
    have h2 : x.t.fill ≤ x.t.mask := by simpa using f2
    simp [h1]
    omega
theorem storeSet_goes (T : Site w os a St) {es : Array (Int × Value)} {t : SetTable} (hz : es.size ≤ sizeLine) : Goes w os gd lv (storeSet a es t) 2 p (St x k) () p (St ⟨es, x.n + 1, t⟩ k) := by
  unfold storeSet
  refine Goes.load (T.get x k) ?_
  show Goes w os gd lv (if es.size > sizeLine then _ else _) _ _ _ _ _ _
  rw [if_neg (Nat.not_lt.mpr hz)]
  intro K H N r z
  have := T.put x k (Obj.putSet es t) ⟨es, x.n + 1, t⟩ rfl
  rw [← this] at z
  rw [show 1 + N = N + 1 by omega]
  refine run_step lt2 ?_ ?_ z
  · show (_ && _) = true
    simp only [PySem.update, Bind.bind, Sem.bind, Sem.wrap]
    rw [show Nat.ble 11 a = true from Nat.ble_eq_true_of_le T.low]
    rfl
  · have e := T.get x k
    generalize St x k = q at e
    obtain ⟨hp, g, d, tk, o'⟩ := q
    simp only [PySem.update, Sem.wrap, step, e, Option.isSome_some, if_true]
theorem setUnled_goes (T : Site w os a St) (f : x.t.fits x.es.size = true) (hz : x.es.size ≤ sizeLine) : Goes w os gd lv (setUnled a) 3 p (St x k) () p (St (unledP x) k) := by
  unfold setUnled
  refine Goes.le (n := 1 + 2) (Goes.bind (a := (x.es, x.n, x.t)) (setState_goes T f) ?_) (Nat.le_refl _)
  exact storeSet_goes (x := x) T hz
theorem gave_goes (g : Bool) {f : Unit → Sem α} {c : α} (h : Goes w os gd lv (f ()) n p s c p' s') : ∀ (gw : Bool → Sem Unit), gw false = pure () → gw true = rule "set.scan.the-table-gave-way" → Goes w os gd lv (gw g >>= f) (n + 1) p s c p' s' := by
  intro gw e1 e2
  cases g with
  | false => rw [e1]; exact Goes.le h (by omega)
  | true => rw [e2]; exact Goes.rule h
theorem scan_goes {L : List Str} {y : Str} {tok : Tok} {h : Int} (b : Bears L x) (hy : y ∉ L) : setScan a (.str y tok) h true x.es = pure .absent := by
  unfold setScan
  have h1 : (x.es.all fun e => isExactStrKey e.2) = true := by
    rw [Array.all_eq_true_iff_forall_mem]
    intro e he
    obtain ⟨s, t, q, _⟩ := b.sound e (Array.mem_toList_iff.mpr he)
    rw [q]; rfl
  have h2 : x.es.findIdx? (fun e => e.2.isStr y) = none := by
    rw [Array.findIdx?_eq_none_iff]
    intro e he
    obtain ⟨s, t, q, hs⟩ := b.sound e (Array.mem_toList_iff.mpr he)
    rw [q]
    show (s == y) = false
    exact beq_eq_false_iff_ne.mpr fun z => hy (z ▸ hs)
  dsimp only
  rw [if_pos h1]
  unfold setScanStrs
  rw [h2]
theorem byScan_ok {L : List Str} {y : Str} {tok : Tok} (b : Bears L x) (hz : x.es.size < 1000) : byScan (.str y tok) x.es = true := by
  unfold byScan
  have h1 : (x.es.all fun e => e.2.scannable) = true := by
    rw [Array.all_eq_true_iff_forall_mem]
    intro e he
    obtain ⟨s, t, q, _⟩ := b.sound e (Array.mem_toList_iff.mpr he)
    rw [q]; rfl
  rw [h1]
  simp only [Value.scannable, Bool.true_and, Bool.and_true, decide_eq_true_eq]
  unfold scanBound
  omega
theorem addScan_goes (T : Site w os a St) {L : List Str} {y : Str} {tok : Tok} {h : Int} (b : Bears L x) (hy : y ∉ L) (hz : x.es.size < 1000) :
    Goes w os gd lv (setAddByScan a (.str y tok) h x.es x.t) 12 p (St x k) (some true) p (St (addP h (.str y tok) x) k) := by
  unfold setAddByScan
  refine Goes.le (Goes.rule (n := 11) ?_) (by omega)
  rw [scan_goes b hy]
  refine Goes.le (Goes.bind (n₁ := 0) Goes.pure (n₂ := 11) ?_) (by omega)
  dsimp only
  refine Goes.le (n := 10 + 1) (gave_goes _ ?_ _ rfl rfl) (by omega)
  have z1 : (layNew x.t x.es h (Value.str y tok)).1.size ≤ sizeLine := by rw [layNew_size]; unfold sizeLine; omega
  have tail : ∀ t1 : SetTable, t1 = unplain (layNew x.t x.es h (Value.str y tok)).2.1 → ∀ (gw : Bool → Sem Unit), gw false = pure () → gw true = rule "set.scan.the-table-gave-way" →
      Goes w os gd lv (do
        storeSet a (layNew x.t x.es h (Value.str y tok)).1 t1
        if (!(layNew x.t x.es h (Value.str y tok)).2.2.1 && t1.tooFull) = true then do
          gw (relayAll t1 (layNew x.t x.es h (Value.str y tok)).1 (SetTable.grown (layNew x.t x.es h (Value.str y tok)).1.size)).2.2
          storeSet a (relayAll t1 (layNew x.t x.es h (Value.str y tok)).1 (SetTable.grown (layNew x.t x.es h (Value.str y tok)).1.size)).1 (relayAll t1 (layNew x.t x.es h (Value.str y tok)).1 (SetTable.grown (layNew x.t x.es h (Value.str y tok)).1.size)).2.1
          pure (some true)
        else pure (some true)) 10 p (St x k) (some true) p (St (addP h (.str y tok) x) k) := by
    intro t1 e1 gw g1 g2
    subst e1
    refine Goes.le (n := 2 + 8) (Goes.bind (storeSet_goes (x := x) T z1) ?_) (Nat.le_refl _)
    show Goes w os gd lv _ 8 p (St (oneP h (.str y tok) x) k) _ _ _
    unfold addP
    by_cases hc : fullP h (.str y tok) x = true
    · rw [if_pos hc]
      have hc' := hc
      unfold fullP at hc'
      rw [if_pos hc']
      refine Goes.le (n := 2 + 0 + 1) (gave_goes _ ?_ _ g1 g2) (by omega)
      have z2 : (relayAll (oneP h (.str y tok) x).t (oneP h (.str y tok) x).es (SetTable.grown (oneP h (.str y tok) x).es.size)).1.size ≤ sizeLine := by
        have := (relayAll_ok (oneP h (.str y tok) x).t (oneP h (.str y tok) x).es (SetTable.grown (oneP h (.str y tok) x).es.size)).2.length_eq
        simp only [Array.length_toList] at this
        rw [this]; exact z1
      exact Goes.bind (storeSet_goes (x := oneP h (.str y tok) x) T z2) Goes.pure
    · rw [if_neg hc]
      have hc' := hc
      unfold fullP at hc'
      rw [if_neg hc']
      exact Goes.le Goes.pure (by omega)
  cases hp : (layNew x.t x.es h (Value.str y tok)).2.1.plain with
  | true =>
    rw [if_pos rfl, show hashByValue 8 (Value.str y tok) = pure false from rfl]
    refine Goes.le (n := 0 + 10) (Goes.bind Goes.pure ?_) (Nat.le_refl _)
    simp only [Bool.false_eq_true, if_false]
    exact tail _ (by unfold unplain; rw [if_pos hp]) _ rfl rfl
  | false =>
    rw [if_neg Bool.false_ne_true]
    refine Goes.le (n := 0 + 10) (Goes.bind Goes.pure ?_) (Nat.le_refl _)
    simp only [if_true]
    exact tail _ (by unfold unplain; rw [if_neg (by rw [hp]; exact Bool.false_ne_true)]) _ rfl rfl
theorem addHashed_goes (T : Site w os a St) {L : List Str} {y : Str} {tok : Tok} {h : Int} (b : Bears L x) (hy : y ∉ L) (hz : x.es.size < 1000) :
    Goes w os gd lv (setAddHashed a (.str y tok) h) 13 p (St x k) true p (St (addP h (.str y tok) x) k) := by
  unfold setAddHashed
  refine Goes.holding_str ?_
  show Goes w os gd lv (setAddHashedIn a (.str y tok) h (99999 + 1)) _ _ _ _ _ _
  unfold setAddHashedIn
  refine Goes.le (n := 1 + 12) (Goes.bind (a := (x.es, x.n, x.t)) (setState_goes T b.fits) ?_) (Nat.le_refl _)
  dsimp only
  rw [if_pos (byScan_ok b hz)]
  exact Goes.le (n := 12 + 0) (Goes.bind (addScan_goes T b hy hz) Goes.pure) (Nat.le_refl _)
theorem add_goes (T : Site w os a St) {L : List Str} {y : Str} {tok : Tok} (hh : ∀ x k (lv : List Value → List Value), Goes w os gd lv (pyHash (.str y tok)) 12 p (St x k) (hashOf w y) p (St x (k + 1))) (b : Bears L x) (hy : y ∉ L) (hz : x.es.size < 1000) :
    Goes w os gd lv (setAdd a (.str y tok)) 25 p (St x k) true p (St (addP (hashOf w y) (.str y tok) x) (k + 1)) := by
  unfold setAdd
  refine Goes.holding_str ?_
  exact Goes.le (n := 12 + 13) (Goes.bind (hh x k lv) (addHashed_goes T b hy hz)) (Nat.le_refl _)

/-- the set's parts behind these texts, told with their tokens -/
noncomputable def addAll (w : World) : List (Str × Tok) → SetP → SetP
  | [], x => x
  | (y, tok) :: r, x => addAll w r (addP (hashOf w y) (.str y tok) x)
theorem addAll_bears : ∀ (l : List (Str × Tok)) (L : List Str) (x : SetP), Bears L x → Bears ((l.map (·.1)).reverse ++ L) (addAll w l x)
  | [], _, _, b => b
  | (y, tok) :: r, L, x, b => by
    have := addAll_bears r (y :: L) _ (addP_bears (h := hashOf w y) (s := y) (tok := tok) b)
    simpa [addAll] using this
noncomputable def valsOf (l : List (Str × Tok)) : List Value := l.map fun y => .str y.1 y.2
theorem addLoop_goes (T : Site w os a St) (hh : ∀ y tok x k (lv : List Value → List Value), Goes w os gd lv (pyHash (.str y tok)) 12 p (St x k) (hashOf w y) p (St x (k + 1))) :
    ∀ (l : List (Str × Tok)) (L : List Str) (x : SetP) (k : Nat), Bears L x → ((l.map (·.1)).reverse ++ L).Nodup → L.length + l.length < 1000 →
      Goes w os gd lv (forIn (valsOf l) PUnit.unit fun v _ => do let _ ← setAdd a v; pure (ForInStep.yield PUnit.unit)) (25 * l.length) p (St x k) PUnit.unit p (St (addAll w l x) (k + l.length))
  | [], _, x, k, _, _, _ => Goes.pure
  | (y, tok) :: r, L, x, k, b, nd, hz => by
    have nd' : ((r.map (·.1)).reverse ++ (y :: L)).Nodup := by simpa using nd
    have hy : y ∉ L := (List.nodup_cons.mp (List.nodup_append.mp nd').2.1).1
    have hsz : x.es.size < 1000 := by rw [b.size]; omega
    show Goes w os gd lv (forIn (Value.str y tok :: valsOf r) PUnit.unit _) _ _ _ _ _ _
    rw [List.forIn_cons]
    have ih := addLoop_goes T hh r (y :: L) _ (k + 1) (addP_bears (h := hashOf w y) (s := y) (tok := tok) b) nd' (by simp at hz ⊢; omega)
    have e : k + 1 + r.length = k + (r.length + 1) := by omega
    rw [e] at ih
    refine Goes.le (n := (25 + 0) + 25 * r.length) (Goes.bind (Goes.bind (add_goes T (hh y tok) b hy hsz) Goes.pure) ?_) (by simp; omega)
    exact ih
end
end DaHead
open PySem PySem.W PyProof.Rows
set_option Elab.async false
set_option linter.unusedVariables false
set_option linter.unusedSimpArgs false
set_option maxRecDepth 100000
namespace DaHead

section
variable {w : World} {os : OsState} {gd : Bool → Bool} {lv : List Value → List Value} {α β : Type} {m : Sem α} {n n₁ n₂ : Nat} {p p₁ p₂ p' : Pos} {s s₁ s₂ s' : Shared} {b : α}
theorem Goes.alloc {o : Obj} {f : Addr → Sem α} (h : Goes w os gd lv (f s.heap.objs.size) n p { s with heap := s.heap.push o } b p' s') : Goes w os gd lv (PySem.alloc o >>= f) (n + 1) p s b p' s' := fun K H N r z => by
  rw [show n + 1 + N = (n + N) + 1 by omega]
  refine run_step lt2 rfl ?_ (h K H N r z)
  obtain ⟨hp, g, d, tk, o'⟩ := s
  simp only [PySem.alloc, Bind.bind, Sem.bind, Sem.wrap, step]
theorem Goes.fresh {f : Tok → Sem α} (h : Goes w os gd lv (f s.toks) n p { s with toks := s.toks + 1 } b p' s') : Goes w os gd lv (PySem.fresh >>= f) (n + 1) p s b p' s' := fun K H N r z => by
  rw [show n + 1 + N = (n + N) + 1 by omega]
  refine run_step lt2 rfl ?_ (h K H N r z)
  obtain ⟨hp, g, d, tk, o'⟩ := s
  simp only [PySem.fresh, Bind.bind, Sem.bind, Sem.wrap, step]

/-- the written signs of a set display, with the tokens that they get -/
noncomputable def toksFrom : List (Str × Pos) → Nat → List (Str × Tok)
  | [], _ => []
  | (y, _) :: r, k => (y, k) :: toksFrom r (k + 1)
theorem toksFrom_fst : ∀ (l : List (Str × Pos)) (k : Nat), (toksFrom l k).map (·.1) = l.map (·.1)
  | [], _ => rfl
  | (y, _) :: r, k => by show y :: _ = y :: _; rw [toksFrom_fst r]
theorem toksFrom_length : ∀ (l : List (Str × Pos)) (k : Nat), (toksFrom l k).length = l.length
  | [], _ => rfl
  | (y, _) :: r, k => by show _ + 1 = _ + 1; rw [toksFrom_length r]
noncomputable def constsOf (l : List (Str × Pos)) : List Expr := l.map fun y => .Constant (.str y.1) 0 y.2
noncomputable def treesOf (sp : Pos) (env : Env) (l : List (Str × Pos)) : List (Sem Value) := l.map fun y => (do let v ← eval (.Constant (.str y.1) 0 y.2) env; standAt sp; pure v)
theorem evalAll_goes {St : Nat → Shared} (ht : ∀ k, (St k).toks = k) (hn : ∀ k, { St k with toks := k + 1 } = St (k + 1)) (sp : Pos) (env : Env) :
    ∀ (l : List (Str × Pos)) (k : Nat) (lv : List Value → List Value), Goes w os gd lv (evalAll (treesOf sp env l)) (2 * l.length) sp (St k) (valsOf (toksFrom l k)) sp (St (k + l.length))
  | [], k, lv => Goes.pure
  | (y, q) :: r, k, lv => by
    have ih := evalAll_goes ht hn sp env r (k + 1) lv
    rw [show k + 1 + r.length = k + (r.length + 1) by omega] at ih
    have one : Goes w os gd lv (do let v ← eval (.Constant (.str y) 0 q) env; standAt sp; pure v) 2 sp (St k) (.str y k) sp (St (k + 1)) := by
      show Goes w os gd lv (mkText y >>= fun v => standAt sp >>= fun _ => pure v) _ _ _ _ _ _
      have e : mkText y >>= (fun v => standAt sp >>= fun _ => (pure v : Sem Value)) = PySem.fresh >>= fun t => standAt sp >>= fun _ => pure (Value.str y t) := rfl
      rw [e]
      refine Goes.fresh (n := 1) ?_
      rw [ht k, hn k]
      exact Goes.at Goes.pure
    show Goes w os gd lv (evalAll ((do let v ← eval (.Constant (.str y) 0 q) env; standAt sp; pure v) :: treesOf sp env r)) _ _ _ _ _ _
    unfold evalAll
    refine Goes.le (n := 2 + (2 * r.length + 0)) (Goes.bind one (Goes.bind (Goes.holding_str ih) Goes.pure)) (by simp; omega)

theorem setDisplay_goes {a : Addr} {St : SetP → Nat → Shared} {s₀ : Shared} {sp : Pos} {l : List (Str × Pos)} (T : Site w os a St) (hh : ∀ y tok x k p (lv : List Value → List Value), Goes w os gd lv (pyHash (.str y tok)) 12 p (St x k) (hashOf w y) p (St x (k + 1)))
    (ht : ∀ x k, (St x k).toks = k) (hn : ∀ x k j, { St x k with toks := j } = St x j)
    (ha : s₀.heap.objs.size = a) (hs : { s₀ with heap := s₀.heap.push (setO ⟨#[], 0, .fresh 0 0 (!w.params.followText "set-order")⟩) } = St ⟨#[], 0, .fresh 0 0 (!w.params.followText "set-order")⟩ s₀.toks)
    (nd : (l.map (·.1)).Nodup) (h1 : l.length ≤ 30) (fs : Bool) (env : Env) :
    Goes w os gd lv (setDisplay .unsure fs ((treesOf sp env l).map fun t => (false, t))) (27 * l.length + 20) sp s₀ (.ref a) sp
      (St (unledP (addAll w (toksFrom l s₀.toks) ⟨#[], 0, .fresh 0 0 (!w.params.followText "set-order")⟩)) (s₀.toks + l.length + l.length)) := by
  have tl : (treesOf sp env l).length = l.length := by unfold treesOf; simp
  have nf : (if ((treesOf sp env l).map fun t => (false, t)).length > 30 then 0 else ((((treesOf sp env l).map fun t => (false, t)).findIdx? (·.1)).getD ((treesOf sp env l).map fun t => (false, t)).length)) = l.length := by
    rw [if_neg (by simp [tl]; omega)]
    have : (((treesOf sp env l).map fun t => (false, t)).findIdx? (·.1)) = none := by
      rw [List.findIdx?_eq_none_iff]
      intro x hx
      obtain ⟨t, _, rfl⟩ := List.mem_map.mp hx
      rfl
    rw [this]
    simp [tl]
  unfold setDisplay
  simp only [show (DisplayRoad.unsure == DisplayRoad.constants) = false from rfl, show (DisplayRoad.unsure == DisplayRoad.unsure) = true from rfl, Bool.false_eq_true, if_false, if_true]
  have mk : Goes w os gd lv (newSet (.type "set")) 2 sp s₀ (.ref a) sp (St ⟨#[], 0, .fresh 0 0 (!w.params.followText "set-order")⟩ s₀.toks) := by
    unfold newSet setsByText
    show Goes w os gd lv (PySem.ask >>= fun z => newObj (.type "set") (.set #[] 0 (.fresh 0 0 (!z.params.followText "set-order")))) _ _ _ _ _ _
    refine Goes.ask (n := 1) ?_
    show Goes w os gd lv (PySem.alloc (setO ⟨#[], 0, .fresh 0 0 (!w.params.followText "set-order")⟩) >>= fun c => pure (Value.ref c)) _ _ _ _ _ _
    refine Goes.alloc (n := 0) ?_
    rw [hs, ha]
    exact Goes.pure
  refine Goes.le (n := 2 + (27 * l.length + 18)) (Goes.bind mk ?_) (by omega)
  dsimp only
  rw [nf]
  have e1 : List.map (fun x => x.snd) (List.take l.length (List.map (fun t => (false, t)) (treesOf sp env l))) = treesOf sp env l := by
    rw [List.take_of_length_le (by simp [tl]), List.map_map]
    exact List.map_id _
  have e2 : List.drop l.length (List.map (fun t => (false, t)) (treesOf sp env l)) = [] := List.drop_eq_nil_of_le (by simp [tl])
  rw [e1, e2]
  have hv : ∀ {α : Type} (k : List (Str × Tok)) (m : Sem α), holding (valsOf k) m = m := by
    intro α k m
    induction k with
    | nil => rfl
    | cons y r ih => exact ih
  have b0 : Bears [] ⟨#[], 0, .fresh 0 0 (!w.params.followText "set-order")⟩ := ⟨by rfl, rfl, fun e he => (nomatch he), fun y hy => (nomatch hy)⟩
  have bl := addAll_bears (w := w) (toksFrom l s₀.toks) [] _ b0
  refine Goes.le (n := (27 * l.length + 18) + 0) (Goes.bind (a := ()) (Goes.holding_ref ?_) Goes.pure) (by omega)
  have ev := evalAll_goes (w := w) (os := os) (gd := gd) (St := fun k => St ⟨#[], 0, .fresh 0 0 (!w.params.followText "set-order")⟩ k) (fun k => ht _ k) (fun k => hn _ k _) sp env l s₀.toks (fun l => lv ([Value.ref a] ++ l))
  refine Goes.le (n := 2 * l.length + (25 * l.length + 18)) (Goes.bind ev ?_) (by omega)
  rw [hv]
  have ad := addLoop_goes (w := w) (os := os) (gd := gd) (lv := fun l => lv ([Value.ref a] ++ l)) (p := sp) T (fun y tok x k lv => hh y tok x k sp lv) (toksFrom l s₀.toks) [] _ (s₀.toks + l.length) b0 (by
    rw [toksFrom_fst]; simp only [List.append_nil]; exact (List.reverse_perm _).nodup_iff.mpr nd) (by rw [toksFrom_length]; simp; omega)
  rw [toksFrom_length] at ad
  refine Goes.le (n := (25 * l.length + (3 + 1)) + (0 + 0)) (Goes.bind (Goes.bind ad (Goes.rule (setUnled_goes T bl.fits ?_))) (Goes.bind (Goes.pure (a := PUnit.unit)) Goes.pure)) (by omega)
  · rw [bl.size]
    simp only [List.append_nil, List.length_reverse, List.length_map, toksFrom_length]
    unfold sizeLine; omega

theorem starEach_cons (y : Str) (q : Pos) (r : List (Str × Pos)) (env : Env) : starEach (constsOf ((y, q) :: r)) env = (false, eval (.Constant (.str y) 0 q) env) :: starEach (constsOf r) env := rfl
theorem starEach_consts (sp : Pos) (env : Env) (l : List (Str × Pos)) : (starEach (constsOf l) env).map (fun x => (x.1, (do let v ← x.2; standAt sp; pure v : Sem Value))) = (treesOf sp env l).map fun t => (false, t) := by
  induction l with
  | nil => rfl
  | cons z r ih =>
    obtain ⟨y, q⟩ := z
    rw [starEach_cons, List.map_cons, ih]
    rfl
theorem eval_set (elts : List Expr) (sp : Pos) (env : Env) : eval (.Set elts 0 sp) env = (standAt sp >>= fun _ => inMainModule env >>= fun fs => setDisplay (displayRoad 0 elts) fs ((starEach elts env).map (fun x => (x.1, (do let v ← x.2; standAt sp; pure v : Sem Value))))) := rfl
theorem stmt_goes {a : Addr} {St : SetP → Nat → Shared} {s₀ s₁ : Shared} {nm : Str} {np sp pos p p' : Pos} {l : List (Str × Pos)} {fs : Bool} {n₁ n₂ : Nat} (T : Site w os a St)
    (hh : ∀ y tok x k p (lv : List Value → List Value), Goes w os gd lv (pyHash (.str y tok)) 12 p (St x k) (hashOf w y) p (St x (k + 1)))
    (ht : ∀ x k, (St x k).toks = k) (hn : ∀ x k j, { St x k with toks := j } = St x j)
    (ha : s₀.heap.objs.size = a) (hs : { s₀ with heap := s₀.heap.push (setO ⟨#[], 0, .fresh 0 0 (!w.params.followText "set-order")⟩) } = St ⟨#[], 0, .fresh 0 0 (!w.params.followText "set-order")⟩ s₀.toks)
    (nd : (l.map (·.1)).Nodup) (h1 : l.length ≤ 30) (hr : displayRoad 0 (constsOf l) = .unsure)
    (hm : Goes w os gd lv (inMainModule envC) n₁ sp s₀ fs sp s₀)
    (hf : Goes w os gd lv (do standAt np; bindName envC nm (.ref a); pure .next : Sem Flow) n₂ sp (St (unledP (addAll w (toksFrom l s₀.toks) ⟨#[], 0, .fresh 0 0 (!w.params.followText "set-order")⟩)) (s₀.toks + l.length + l.length)) .next p' s₁) :
    Goes w os gd lv (exec (.Assign [.Name nm np] (.Set (constsOf l) 0 sp) pos) envC) (27 * l.length + 30 + n₁ + n₂) p s₀ .next p' s₁ := by
  have ev : Goes w os gd lv (eval (.Set (constsOf l) 0 sp) envC) (27 * l.length + 21 + n₁) pos s₀ (.ref a) sp (St (unledP (addAll w (toksFrom l s₀.toks) ⟨#[], 0, .fresh 0 0 (!w.params.followText "set-order")⟩)) (s₀.toks + l.length + l.length)) := by
    rw [eval_set, hr, starEach_consts]
    exact Goes.le (n := (n₁ + (27 * l.length + 20)) + 1) (Goes.at (Goes.bind hm (setDisplay_goes T hh ht hn ha hs nd h1 fs envC))) (by omega)
  rw [exec_Assign_Name envC nm np _ pos rfl]
  refine Goes.le (n := ((27 * l.length + 21 + n₁) + n₂) + 1) (Goes.at (Goes.bind ev ?_)) (by omega)
  exact hf
end
end DaHead
open PySem PySem.W PyProof.Rows
set_option Elab.async false
set_option linter.unusedVariables false
set_option linter.unusedSimpArgs false
set_option maxRecDepth 100000
set_option maxHeartbeats 0
namespace DaHead
theorem bt_set_at {f : Obj → Obj} {o o' : Obj} (e : f o = o') : ∀ (t : BT) (a : Nat), t.get a = some o → t.set a f = t.set a (fun _ => o')
  | .nil, a, h => by simp [BT.get] at h
  | .node v l r, a, h => by
    rw [BT.set_node, BT.set_node]
    rw [BT.get_node] at h
    by_cases h0 : a = 0
    · rw [if_pos h0] at h ⊢
      rw [if_pos h0]
      cases h; rw [e]
    · rw [if_neg h0] at h ⊢
      rw [if_neg h0]
      by_cases h1 : a % 2 = 1
      · rw [if_pos h1] at h ⊢
        rw [if_pos h1, bt_set_at e l _ h]
      · rw [if_neg h1] at h ⊢
        rw [if_neg h1, bt_set_at e r _ h]
noncomputable def signsOf : Stmt → List (Str × Pos)
  | .Assign _ (.Set elts _ _) _ => elts.filterMap fun e => match e with | .Constant (.str y) _ q => some (y, q) | _ => none
  | _ => []
noncomputable def PH_l := fun (v : Value) => pyHash v
theorem PH_le : PH_l = PH_l := rfl
name_quick PH_lq for PH_l by PH_le
theorem byPH (v : Value) : pyHash v = PySem.W.Fast.PH_lq v := by
  show PH_l v = _
  rw [PySem.W.Fast.PH_lq_eq]
theorem withRow {P : World → Prop} (h : ∀ (b : Bool) (w : World), P (w.withFollow "special-get-raises" b)) (w : World) : P w := byRow2 "special-get-raises" (fun w => h false w) (fun w => h true w) w

theorem H0 (w : World) : ∀ os X Y Z y tok k p gd lv, segRunT treeTable pw w 11 (some (.ref 6)) 2 12 (SharedT.mk (M0_t ⟨w.params, X, Y, Z⟩) 231 lifeH (Array.mk []) (Drawn.mk 0 0 0 0) k os) ⟨(pyHash (.str y tok)).wrap (fun h => .pure (.done (.ret (.int h 0)))) deadEnd gd lv, cC, p, B2 w os⟩ = some (.ret (.int (hashOf w y) 0), (SharedT.mk (M0_t ⟨w.params, X, Y, Z⟩) 231 lifeH (Array.mk []) (Drawn.mk 0 0 0 0) (k + 1) os), cC, p) := by
  refine withRow (P := fun w => ∀ os X Y Z y tok k p gd lv, segRunT treeTable pw w 11 (some (.ref 6)) 2 12 (SharedT.mk (M0_t ⟨w.params, X, Y, Z⟩) 231 lifeH (Array.mk []) (Drawn.mk 0 0 0 0) k os) ⟨(pyHash (.str y tok)).wrap (fun h => .pure (.done (.ret (.int h 0)))) deadEnd gd lv, cC, p, B2 w os⟩ = some (.ret (.int (hashOf w y) 0), (SharedT.mk (M0_t ⟨w.params, X, Y, Z⟩) 231 lifeH (Array.mk []) (Drawn.mk 0 0 0 0) (k + 1) os), cC, p)) (fun b w os X Y Z y tok k p gd lv => ?_) w
  refine byG ?_
  rw [byPH]
  cases b
  · kernel_rfl
  · kernel_rfl
theorem I0 (w : World) (os : OsState) (X Y Z : SetP) (gd : Bool → Bool) (lv : List Value → List Value) : segRunT treeTable pw w 11 (some (.ref 6)) 2 8 (A0 ⟨w.params, X, Y, Z⟩ os) ⟨(inMainModule envC).wrap (fun b => .pure (.done (.ret (.bool b)))) deadEnd gd lv, cC, ⟨168, 19, 168, 79⟩, B2 w os⟩ = some (.ret (.bool true), A0 ⟨w.params, X, Y, Z⟩ os, cC, ⟨168, 19, 168, 79⟩) := by
  exact byG (by kernel_rfl)
theorem F0 (w : World) (os : OsState) (X Y Z : SetP) (gd : Bool → Bool) (lv : List Value → List Value) : segRunT treeTable pw w 11 (some (.ref 6)) 2 40 (SharedT.mk (M0_t ⟨w.params, X, Y, Z⟩) 231 lifeH (Array.mk []) (Drawn.mk 0 0 0 0) 497 os) ⟨(do standAt ⟨168, 4, 168, 16⟩; bindName envC "g_undouble_c" (.ref 230); pure .next : Sem Flow).wrap (fun f => .pure (.done f)) deadEnd gd lv, cC, ⟨168, 19, 168, 79⟩, B2 w os⟩ = some (.next, A1 ⟨w.params, X, Y, Z⟩ os, cC, ⟨168, 4, 168, 16⟩) := by
  exact byG (by kernel_rfl)
theorem get0 (w : World) (X Y Z : SetP) : (M0_t ⟨w.params, X, Y, Z⟩).get 230 = some (setO X) := by rfl
theorem put0 (w : World) (X Y Z x : SetP) : (M0_t ⟨w.params, X, Y, Z⟩).set 230 (fun _ => setO x) = M0_t ⟨w.params, x, Y, Z⟩ := by rfl
theorem site0 (w : World) (os : OsState) (Y Z : SetP) : Site w os 230 (fun x k => (SharedT.mk (M0_t ⟨w.params, x, Y, Z⟩) 231 lifeH (Array.mk []) (Drawn.mk 0 0 0 0) k os).abs) where
  low := by decide
  get x k := (abs_get (Nat.lt_succ_self 230) (get0 w x Y Z)).trans rfl
  put x k f y e := by
    show Shared.mk ((absHeap (M0_t ⟨w.params, x, Y, Z⟩) 231 lifeH).update 230 f) _ _ _ _ = _
    rw [← absHeap_set (get0 w x Y Z), bt_set_at e _ _ (get0 w x Y Z), put0]
    rfl
noncomputable def fresh0 (w : World) : SetP := ⟨#[], 0, .fresh 0 0 (!w.params.followText "set-order")⟩
noncomputable def toks0 : List (Str × Tok) := toksFrom (signsOf (clsS 6 0)) 473
/-- the set as the top leaves it -/
noncomputable def end0 (w : World) : SetP := unledP (addAll w toks0 (fresh0 w))
theorem new0 (w : World) (os : OsState) (Y Z : SetP) (x : SetP) : { (A0 ⟨w.params, nO, Y, Z⟩ os).abs with heap := (A0 ⟨w.params, nO, Y, Z⟩ os).abs.heap.push (setO x) } = (SharedT.mk (M0_t ⟨w.params, x, Y, Z⟩) 231 lifeH (Array.mk []) (Drawn.mk 0 0 0 0) 473 os).abs := by
  have e : (A0_t ⟨w.params, nO, Y, Z⟩).ins 230 (setO x) = M0_t ⟨w.params, x, Y, Z⟩ := by rfl
  show Shared.mk ((absHeap (A0_t ⟨w.params, nO, Y, Z⟩) 230 lifeH).push (setO x)) _ _ _ _ = _
  rw [← absHeap_ins (n := 230) (by rw [e]; rfl), e]
  rfl
theorem stmt0_is : clsS 6 0 = .Assign [.Name "g_undouble_c" ⟨168, 4, 168, 16⟩] (.Set (constsOf (signsOf (clsS 6 0))) 0 ⟨168, 19, 168, 79⟩) ⟨168, 4, 168, 79⟩ := by kernel_rfl
theorem signs0_len : (signsOf (clsS 6 0)).length = 12 := by rfl
theorem signs0_nd : ((signsOf (clsS 6 0)).map (·.1)).Nodup := by decide +kernel
theorem C0 (w : World) (os : OsState) (Y Z : SetP) (gd lv) : Goes w os gd lv (exec (clsS 6 0) envC) (27 * 12 + 30 + 8 + 40) ⟨167, 0, 336, 115⟩ (A0 ⟨w.params, nO, Y, Z⟩ os).abs .next ⟨168, 4, 168, 16⟩ (A1 ⟨w.params, (end0 w), Y, Z⟩ os).abs := by
  rw [stmt0_is, ← signs0_len]
  refine stmt_goes (site0 w os Y Z) (fs := true) (fun y tok x k p lv => Goes.of_run (fun h => .ret (.int h 0)) (fun x e => by cases e; rfl) (H0 w os x Y Z y tok k p gd lv))
    (fun _ _ => rfl) (fun _ _ _ => rfl) (absHeap_size _ _ _) (new0 w os Y Z _) signs0_nd (by rw [signs0_len]; decide) (by decide +kernel)
    (Goes.of_run (fun b => .ret (.bool b)) (fun x e => by cases e; rfl) (I0 w os nO Y Z gd lv)) ?_
  rw [signs0_len]
  exact Goes.of_run (fun f => f) (fun x e => e) (F0 w os (end0 w) Y Z gd lv)

theorem H1 (w : World) : ∀ os X Y Z y tok k p gd lv, segRunT treeTable pw w 11 (some (.ref 6)) 2 12 (SharedT.mk (M1_t ⟨w.params, X, Y, Z⟩) 232 lifeH (Array.mk []) (Drawn.mk 0 0 0 0) k os) ⟨(pyHash (.str y tok)).wrap (fun h => .pure (.done (.ret (.int h 0)))) deadEnd gd lv, cC, p, B2 w os⟩ = some (.ret (.int (hashOf w y) 0), (SharedT.mk (M1_t ⟨w.params, X, Y, Z⟩) 232 lifeH (Array.mk []) (Drawn.mk 0 0 0 0) (k + 1) os), cC, p) := by
  refine withRow (P := fun w => ∀ os X Y Z y tok k p gd lv, segRunT treeTable pw w 11 (some (.ref 6)) 2 12 (SharedT.mk (M1_t ⟨w.params, X, Y, Z⟩) 232 lifeH (Array.mk []) (Drawn.mk 0 0 0 0) k os) ⟨(pyHash (.str y tok)).wrap (fun h => .pure (.done (.ret (.int h 0)))) deadEnd gd lv, cC, p, B2 w os⟩ = some (.ret (.int (hashOf w y) 0), (SharedT.mk (M1_t ⟨w.params, X, Y, Z⟩) 232 lifeH (Array.mk []) (Drawn.mk 0 0 0 0) (k + 1) os), cC, p)) (fun b w os X Y Z y tok k p gd lv => ?_) w
  refine byG ?_
  rw [byPH]
  cases b
  · kernel_rfl
  · kernel_rfl
theorem I1 (w : World) (os : OsState) (X Y Z : SetP) (gd : Bool → Bool) (lv : List Value → List Value) : segRunT treeTable pw w 11 (some (.ref 6)) 2 8 (A1 ⟨w.params, X, Y, Z⟩ os) ⟨(inMainModule envC).wrap (fun b => .pure (.done (.ret (.bool b)))) deadEnd gd lv, cC, ⟨169, 10, 169, 58⟩, B2 w os⟩ = some (.ret (.bool true), A1 ⟨w.params, X, Y, Z⟩ os, cC, ⟨169, 10, 169, 58⟩) := by
  exact byG (by kernel_rfl)
theorem F1 (w : World) (os : OsState) (X Y Z : SetP) (gd : Bool → Bool) (lv : List Value → List Value) : segRunT treeTable pw w 11 (some (.ref 6)) 2 40 (SharedT.mk (M1_t ⟨w.params, X, Y, Z⟩) 232 lifeH (Array.mk []) (Drawn.mk 0 0 0 0) 516 os) ⟨(do standAt ⟨169, 4, 169, 7⟩; bindName envC "g_v" (.ref 231); pure .next : Sem Flow).wrap (fun f => .pure (.done f)) deadEnd gd lv, cC, ⟨169, 10, 169, 58⟩, B2 w os⟩ = some (.next, A2 ⟨w.params, X, Y, Z⟩ os, cC, ⟨169, 4, 169, 7⟩) := by
  exact byG (by kernel_rfl)
theorem get1 (w : World) (X Y Z : SetP) : (M1_t ⟨w.params, X, Y, Z⟩).get 231 = some (setO Y) := by rfl
theorem put1 (w : World) (X Y Z x : SetP) : (M1_t ⟨w.params, X, Y, Z⟩).set 231 (fun _ => setO x) = M1_t ⟨w.params, X, x, Z⟩ := by rfl
theorem site1 (w : World) (os : OsState) (X Z : SetP) : Site w os 231 (fun x k => (SharedT.mk (M1_t ⟨w.params, X, x, Z⟩) 232 lifeH (Array.mk []) (Drawn.mk 0 0 0 0) k os).abs) where
  low := by decide
  get x k := (abs_get (Nat.lt_succ_self 231) (get1 w X x Z)).trans rfl
  put x k f y e := by
    show Shared.mk ((absHeap (M1_t ⟨w.params, X, x, Z⟩) 232 lifeH).update 231 f) _ _ _ _ = _
    rw [← absHeap_set (get1 w X x Z), bt_set_at e _ _ (get1 w X x Z), put1]
    rfl
noncomputable def fresh1 (w : World) : SetP := ⟨#[], 0, .fresh 0 0 (!w.params.followText "set-order")⟩
noncomputable def toks1 : List (Str × Tok) := toksFrom (signsOf (clsS 6 1)) 498
/-- the set as the top leaves it -/
noncomputable def end1 (w : World) : SetP := unledP (addAll w toks1 (fresh1 w))
theorem new1 (w : World) (os : OsState) (X Z : SetP) (x : SetP) : { (A1 ⟨w.params, X, nO, Z⟩ os).abs with heap := (A1 ⟨w.params, X, nO, Z⟩ os).abs.heap.push (setO x) } = (SharedT.mk (M1_t ⟨w.params, X, x, Z⟩) 232 lifeH (Array.mk []) (Drawn.mk 0 0 0 0) 498 os).abs := by
  have e : (A1_t ⟨w.params, X, nO, Z⟩).ins 231 (setO x) = M1_t ⟨w.params, X, x, Z⟩ := by rfl
  show Shared.mk ((absHeap (A1_t ⟨w.params, X, nO, Z⟩) 231 lifeH).push (setO x)) _ _ _ _ = _
  rw [← absHeap_ins (n := 231) (by rw [e]; rfl), e]
  rfl
theorem stmt1_is : clsS 6 1 = .Assign [.Name "g_v" ⟨169, 4, 169, 7⟩] (.Set (constsOf (signsOf (clsS 6 1))) 0 ⟨169, 10, 169, 58⟩) ⟨169, 4, 169, 58⟩ := by kernel_rfl
theorem signs1_len : (signsOf (clsS 6 1)).length = 9 := by rfl
theorem signs1_nd : ((signsOf (clsS 6 1)).map (·.1)).Nodup := by decide +kernel
theorem C1 (w : World) (os : OsState) (X Z : SetP) (gd lv) : Goes w os gd lv (exec (clsS 6 1) envC) (27 * 9 + 30 + 8 + 40) ⟨168, 4, 168, 16⟩ (A1 ⟨w.params, X, nO, Z⟩ os).abs .next ⟨169, 4, 169, 7⟩ (A2 ⟨w.params, X, (end1 w), Z⟩ os).abs := by
  rw [stmt1_is, ← signs1_len]
  refine stmt_goes (site1 w os X Z) (fs := true) (fun y tok x k p lv => Goes.of_run (fun h => .ret (.int h 0)) (fun x e => by cases e; rfl) (H1 w os X x Z y tok k p gd lv))
    (fun _ _ => rfl) (fun _ _ _ => rfl) (absHeap_size _ _ _) (new1 w os X Z _) signs1_nd (by rw [signs1_len]; decide) (by decide +kernel)
    (Goes.of_run (fun b => .ret (.bool b)) (fun x e => by cases e; rfl) (I1 w os X nO Z gd lv)) ?_
  rw [signs1_len]
  exact Goes.of_run (fun f => f) (fun x e => e) (F1 w os X (end1 w) Z gd lv)

theorem H2 (w : World) : ∀ os X Y Z y tok k p gd lv, segRunT treeTable pw w 11 (some (.ref 6)) 2 12 (SharedT.mk (M2_t ⟨w.params, X, Y, Z⟩) 233 lifeH (Array.mk []) (Drawn.mk 0 0 0 0) k os) ⟨(pyHash (.str y tok)).wrap (fun h => .pure (.done (.ret (.int h 0)))) deadEnd gd lv, cC, p, B2 w os⟩ = some (.ret (.int (hashOf w y) 0), (SharedT.mk (M2_t ⟨w.params, X, Y, Z⟩) 233 lifeH (Array.mk []) (Drawn.mk 0 0 0 0) (k + 1) os), cC, p) := by
  refine withRow (P := fun w => ∀ os X Y Z y tok k p gd lv, segRunT treeTable pw w 11 (some (.ref 6)) 2 12 (SharedT.mk (M2_t ⟨w.params, X, Y, Z⟩) 233 lifeH (Array.mk []) (Drawn.mk 0 0 0 0) k os) ⟨(pyHash (.str y tok)).wrap (fun h => .pure (.done (.ret (.int h 0)))) deadEnd gd lv, cC, p, B2 w os⟩ = some (.ret (.int (hashOf w y) 0), (SharedT.mk (M2_t ⟨w.params, X, Y, Z⟩) 233 lifeH (Array.mk []) (Drawn.mk 0 0 0 0) (k + 1) os), cC, p)) (fun b w os X Y Z y tok k p gd lv => ?_) w
  refine byG ?_
  rw [byPH]
  cases b
  · kernel_rfl
  · kernel_rfl
theorem I2 (w : World) (os : OsState) (X Y Z : SetP) (gd : Bool → Bool) (lv : List Value → List Value) : segRunT treeTable pw w 11 (some (.ref 6)) 2 8 (A2 ⟨w.params, X, Y, Z⟩ os) ⟨(inMainModule envC).wrap (fun b => .pure (.done (.ret (.bool b)))) deadEnd gd lv, cC, ⟨170, 17, 170, 123⟩, B2 w os⟩ = some (.ret (.bool true), A2 ⟨w.params, X, Y, Z⟩ os, cC, ⟨170, 17, 170, 123⟩) := by
  exact byG (by kernel_rfl)
theorem F2 (w : World) (os : OsState) (X Y Z : SetP) (gd : Bool → Bool) (lv : List Value → List Value) : segRunT treeTable pw w 11 (some (.ref 6)) 2 40 (SharedT.mk (M2_t ⟨w.params, X, Y, Z⟩) 233 lifeH (Array.mk []) (Drawn.mk 0 0 0 0) 559 os) ⟨(do standAt ⟨170, 4, 170, 14⟩; bindName envC "g_s_ending" (.ref 232); pure .next : Sem Flow).wrap (fun f => .pure (.done f)) deadEnd gd lv, cC, ⟨170, 17, 170, 123⟩, B2 w os⟩ = some (.next, A3 ⟨w.params, X, Y, Z⟩ os, cC, ⟨170, 4, 170, 14⟩) := by
  exact byG (by kernel_rfl)
theorem get2 (w : World) (X Y Z : SetP) : (M2_t ⟨w.params, X, Y, Z⟩).get 232 = some (setO Z) := by rfl
theorem put2 (w : World) (X Y Z x : SetP) : (M2_t ⟨w.params, X, Y, Z⟩).set 232 (fun _ => setO x) = M2_t ⟨w.params, X, Y, x⟩ := by rfl
theorem site2 (w : World) (os : OsState) (X Y : SetP) : Site w os 232 (fun x k => (SharedT.mk (M2_t ⟨w.params, X, Y, x⟩) 233 lifeH (Array.mk []) (Drawn.mk 0 0 0 0) k os).abs) where
  low := by decide
  get x k := (abs_get (Nat.lt_succ_self 232) (get2 w X Y x)).trans rfl
  put x k f y e := by
    show Shared.mk ((absHeap (M2_t ⟨w.params, X, Y, x⟩) 233 lifeH).update 232 f) _ _ _ _ = _
    rw [← absHeap_set (get2 w X Y x), bt_set_at e _ _ (get2 w X Y x), put2]
    rfl
noncomputable def fresh2 (w : World) : SetP := ⟨#[], 0, .fresh 0 0 (!w.params.followText "set-order")⟩
noncomputable def toks2 : List (Str × Tok) := toksFrom (signsOf (clsS 6 2)) 517
/-- the set as the top leaves it -/
noncomputable def end2 (w : World) : SetP := unledP (addAll w toks2 (fresh2 w))
theorem new2 (w : World) (os : OsState) (X Y : SetP) (x : SetP) : { (A2 ⟨w.params, X, Y, nO⟩ os).abs with heap := (A2 ⟨w.params, X, Y, nO⟩ os).abs.heap.push (setO x) } = (SharedT.mk (M2_t ⟨w.params, X, Y, x⟩) 233 lifeH (Array.mk []) (Drawn.mk 0 0 0 0) 517 os).abs := by
  have e : (A2_t ⟨w.params, X, Y, nO⟩).ins 232 (setO x) = M2_t ⟨w.params, X, Y, x⟩ := by rfl
  show Shared.mk ((absHeap (A2_t ⟨w.params, X, Y, nO⟩) 232 lifeH).push (setO x)) _ _ _ _ = _
  rw [← absHeap_ins (n := 232) (by rw [e]; rfl), e]
  rfl
theorem stmt2_is : clsS 6 2 = .Assign [.Name "g_s_ending" ⟨170, 4, 170, 14⟩] (.Set (constsOf (signsOf (clsS 6 2))) 0 ⟨170, 17, 170, 123⟩) ⟨170, 4, 170, 123⟩ := by kernel_rfl
theorem signs2_len : (signsOf (clsS 6 2)).length = 21 := by rfl
theorem signs2_nd : ((signsOf (clsS 6 2)).map (·.1)).Nodup := by decide +kernel
theorem C2 (w : World) (os : OsState) (X Y : SetP) (gd lv) : Goes w os gd lv (exec (clsS 6 2) envC) (27 * 21 + 30 + 8 + 40) ⟨169, 4, 169, 7⟩ (A2 ⟨w.params, X, Y, nO⟩ os).abs .next ⟨170, 4, 170, 14⟩ (A3 ⟨w.params, X, Y, (end2 w)⟩ os).abs := by
  rw [stmt2_is, ← signs2_len]
  refine stmt_goes (site2 w os X Y) (fs := true) (fun y tok x k p lv => Goes.of_run (fun h => .ret (.int h 0)) (fun x e => by cases e; rfl) (H2 w os X Y x y tok k p gd lv))
    (fun _ _ => rfl) (fun _ _ _ => rfl) (absHeap_size _ _ _) (new2 w os X Y _) signs2_nd (by rw [signs2_len]; decide) (by decide +kernel)
    (Goes.of_run (fun b => .ret (.bool b)) (fun x e => by cases e; rfl) (I2 w os X Y nO gd lv)) ?_
  rw [signs2_len]
  exact Goes.of_run (fun f => f) (fun x e => e) (F2 w os X Y (end2 w) gd lv)

end DaHead
open PySem PySem.W PyProof.Rows
set_option Elab.async false
set_option linter.unusedVariables false
set_option linter.unusedSimpArgs false
set_option maxRecDepth 100000
set_option maxHeartbeats 0
namespace DaHead
theorem bC_is : bC = clsS 6 0 :: clsS 6 1 :: clsS 6 2 :: dropS 3 bC := by kernel_rfl
noncomputable abbrev EndW (w : World) : Wd := ⟨w.params, end0 w, end1 w, end2 w⟩
theorem start_goes (w : World) (os : OsState) : Goes w os id id (blockStart bC envC) 1 ⟨167, 0, 336, 115⟩ (A0 ⟨w.params, nO, nO, nO⟩ os).abs () ⟨167, 0, 336, 115⟩ (A0 ⟨w.params, nO, nO, nO⟩ os).abs :=
  Goes.of_run (fun _ => .next) (fun x _ => rfl) (LB w os)
theorem class_run (w : World) (os : OsState) : segRun treeTable pw w 11 (some (.ref 6)) 1 (64 + (1 + (402 + (321 + (645 + 7380))))) (S6 ⟨w.params, nO, nO, nO⟩ os).abs (pieceOf (topS 6) envT cT ⟨166, 0, 166, 8⟩ [topFrame q0]) = some (.next, (S7 (EndW w) os).abs, cT, ⟨167, 0, 336, 115⟩) := by
  refine seg_go (segGo_of (LA w os)) ?_
  rw [show denote treeTable cC = _ from body_wrap (tb := treeTable) (env := envC) bC]
  refine start_goes w os _ _ _ _ ?_
  rw [show execs bC envC = execs (clsS 6 0 :: clsS 6 1 :: clsS 6 2 :: dropS 3 bC) envC from congrArg (fun l => execs l envC) bC_is, execs_cons_wrap]
  refine C0 w os nO nO id id _ _ _ _ ?_
  dsimp only
  rw [execs_cons_wrap]
  refine C1 w os (end0 w) nO id id _ _ _ _ ?_
  dsimp only
  rw [execs_cons_wrap]
  refine C2 w os (end0 w) (end1 w) id id _ _ _ _ ?_
  exact segRun_of (LR w os (end0 w) (end1 w) (end2 w))
theorem execs_app_wrap {env : Env} {H : Value → Sem Fin} (bs : List Stmt) : ∀ as : List Stmt, (execs (as ++ bs) env).wrap doneF H id id = (execs as env).wrap (fun f => match f with | .next => (execs bs env).wrap doneF H id id | f => doneF f) H id id
  | [] => rfl
  | a :: r => by
    rw [List.cons_append, PySem.execs_cons, PySem.execs_cons, Sem.bind_eq_wrap', Sem.bind_eq_wrap', Sem.wrap_wrap, Sem.wrap_wrap]
    refine Sem.wrap_congr _ _ _ (fun f => ?_) fun _ => rfl
    cases f with
    | next => exact execs_app_wrap bs r
    | _ => rfl
/-- a few statements of the top in one run -/
theorem pieces_app {n N : Nat} {w : World} {s s' r : Shared} {as bs : List Stmt} {pos p' : Pos} (h : segRun treeTable pw w 11 (some (.ref 6)) 1 n s ⟨(execs as envT).wrap doneF deadEnd id id, cT, pos, [topFrame q0]⟩ = some (.next, s', cT, p'))
    (k : topRun treeTable pw w 11 (some (.ref 6)) N s' (restOf bs envT cT p' [topFrame q0]) = some r) : topRun treeTable pw w 11 (some (.ref 6)) (n + N) s (restOf (as ++ bs) envT cT pos [topFrame q0]) = some r := by
  obtain ⟨a, ha, hN⟩ := seg_top (res := id) (K' := fun f => match f with | .next => (execs bs envT).wrap doneF (leaveH envT) id id | f => doneF f) (H' := leaveH envT) (B := [topFrame q0]) rfl n s ⟨(execs as envT).wrap doneF deadEnd id id, cT, pos, [topFrame q0]⟩
    ⟨(execs as envT).wrap (fun f => match f with | .next => (execs bs envT).wrap doneF (leaveH envT) id id | f => doneF f) (leaveH envT) id id, cT, pos, [topFrame q0]⟩ _ _ _ _ ⟨rfl, rfl, .inl ⟨rfl, rfl, _, rfl, rfl⟩⟩ h
  obtain rfl : a = .next := ha
  have := hN N r k
  unfold restOf
  rw [execs_app_wrap]
  exact this
theorem top_is : behindTheImports pw = [topS 0, topS 1, topS 2, topS 3, topS 4, topS 5] ++ (topS 6 :: (dropS 7 (behindTheImports pw) ++ [])) := by kernel_rfl
noncomputable def LP_l := fun (P : Program) (w : World) => topGo treeTable P w 11 (some (.ref 6)) 12
theorem LP_le : LP_l = LP_l := rfl
name_quick LP_lq for LP_l by LP_le
theorem LP (w : World) (os : OsState) : topGo treeTable pw w 11 (some (.ref 6)) 12 ⟨boot_heap w.params, Array.mk [], boot_drawn, boot_toks, os⟩ (topStub pw) = some ((S0 ⟨w.params, nO, nO, nO⟩ os).abs, ⟨denote treeTable cT, cT, ⟨0, 0, 0, 0⟩, [topFrame q0]⟩) := by
  show LP_l pw w _ _ = _
  rw [PySem.W.Fast.LP_lq_eq, byDD]
  kernel_rfl
theorem LQ (w : World) (os : OsState) : segRunT treeTable pw w 11 (some (.ref 6)) 1 1 (S0 ⟨w.params, nO, nO, nO⟩ os) (blockOf (behindTheImports pw) envT cT ⟨0, 0, 0, 0⟩ [topFrame q0]) = some (.next, S0 ⟨w.params, nO, nO, nO⟩ os, cT, ⟨0, 0, 0, 0⟩) := byG (by kernel_rfl)
noncomputable def LF_l := fun (P : Program) (w : World) => topRun treeTable P w 11 (some (.ref 6)) 2
theorem LF_le : LF_l = LF_l := rfl
name_quick LF_lq for LF_l by LF_le
theorem LF (w : World) (os : OsState) (X Y Z : SetP) : topRun treeTable pw w 11 (some (.ref 6)) 2 (S25 ⟨w.params, X, Y, Z⟩ os).abs ⟨doneF .next, cT, ⟨399, 0, 410, 69⟩, [topFrame q0]⟩ = some (S25 ⟨w.params, X, Y, Z⟩ os).abs := by
  show LF_l pw w _ _ = _
  rw [PySem.W.Fast.LF_lq_eq]
  kernel_rfl
theorem top_run (w : World) (os : OsState) : topRun treeTable pw w 11 (some (.ref 6)) 11337 ⟨boot_heap w.params, Array.mk [], boot_drawn, boot_toks, os⟩ (topStub pw) = some (S25 (EndW w) os).abs := by
  show topRun treeTable pw w 11 (some (.ref 6)) (12 + (1 + (1313 + ((64 + (1 + (402 + (321 + (645 + 7380))))) + (1196 + 2))))) _ _ = _
  refine go_top (LP w os) (piece_block (segRun_of (LQ w os)) ?_)
  rw [show restOf (behindTheImports pw) envT cT ⟨0, 0, 0, 0⟩ [topFrame q0] = restOf _ envT cT ⟨0, 0, 0, 0⟩ [topFrame q0] from congrArg (fun l => restOf l envT cT ⟨0, 0, 0, 0⟩ [topFrame q0]) top_is]
  exact pieces_app (segRun_of (T0 w os)) (piece_cons (class_run w os) (pieces_app (segRun_of (T1 w os (end0 w) (end1 w) (end2 w))) (piece_nil (env := envT) (LF w os (end0 w) (end1 w) (end2 w)))))
end DaHead
open PySem PySem.W PyProof.Rows
set_option Elab.async false
set_option linter.unusedVariables false
set_option linter.unusedSimpArgs false
set_option maxRecDepth 100000
set_option maxHeartbeats 0
namespace DaHead
noncomputable def wOf (P : Params) : World := ⟨fun _ _ => 0, P⟩
noncomputable def Wp (P : Params) : Wd := EndW (wOf P)
theorem Wp_is (w : World) : Wp w.params = EndW w := rfl

noncomputable def KA : List Nat := [2, 3, 15, 17, 18, 20, 21, 29, 31, 32, 34, 35, 36, 38, 39, 41, 42, 43, 45, 46, 48, 49, 50, 52, 53, 55, 56, 57, 59, 60, 62, 63, 64, 66, 67, 69, 70, 71, 73, 74, 76, 77, 78, 80, 81, 83, 84, 85, 87, 88, 90, 91, 92, 94, 95, 97, 98, 99, 101, 102, 104, 105, 106, 108, 109, 111, 112, 113, 115, 116, 118, 119, 120, 122, 123, 125, 126, 127, 129, 130, 132, 133, 134, 136, 137, 139, 140, 141, 143, 144, 146, 147, 148, 150, 151, 153, 154, 155, 157, 158, 160, 161, 162, 164, 165, 167, 168, 169, 171, 172, 174, 175, 176, 178, 179, 181, 182, 183, 185, 186, 188, 189, 190, 193, 194, 195, 196, 197, 198, 199, 209, 211, 212, 214, 215, 216, 217, 218, 219, 220, 223, 230, 231, 232, 233, 235, 236, 238, 239, 240, 242, 243, 245, 246, 247, 249, 250, 252, 253, 254, 256, 257, 259, 260, 261, 263, 264, 266, 267, 268, 270, 271, 273, 274, 275, 276, 278, 279, 281, 282, 284, 285, 287, 288, 290, 291, 293, 294, 296, 297, 299, 300, 302, 303, 305, 306, 308, 309, 311, 312, 314, 315, 317, 318, 320, 321, 323, 324, 326, 327, 329, 330, 332, 333, 335, 336, 338, 339, 341, 342, 344, 345, 347, 348, 350, 351, 353, 354, 356, 357, 359, 360, 362, 363, 365, 366, 368, 369, 371, 372, 373, 375, 376, 378, 379, 381, 382, 384, 385, 386, 388, 389, 391, 392, 394, 395, 397, 398, 400, 401, 402, 403, 406, 413, 414, 415, 416, 419, 426, 427, 428, 429, 432, 439, 440, 441, 442, 445, 446, 448, 449, 451, 452, 453, 455, 456, 458, 459, 460, 462, 463, 465, 466, 467, 468, 469, 470, 471, 472, 474, 475, 477, 478, 479, 481, 482, 484, 485, 486, 488, 489, 491, 492, 493, 495, 496, 498, 499, 500, 503, 504]
noncomputable def KE (E : Wd) : Frag := [(nat_lit 2, (o982 E)), (nat_lit 3, (o983 E)), (nat_lit 15, (boot_o_7 E.P)), (nat_lit 17, (o18 E)), (nat_lit 18, (boot_o_7 E.P)), (nat_lit 20, (o20 E)), (nat_lit 21, (o21 E)), (nat_lit 29, (boot_o_7 E.P)), (nat_lit 31, (o27 E)), (nat_lit 32, (boot_o_7 E.P)), (nat_lit 34, (o29 E)), (nat_lit 35, (o30 E)), (nat_lit 36, (boot_o_7 E.P)), (nat_lit 38, (o31 E)), (nat_lit 39, (boot_o_7 E.P)), (nat_lit 41, (o33 E)), (nat_lit 42, (o34 E)), (nat_lit 43, (boot_o_7 E.P)), (nat_lit 45, (o35 E)), (nat_lit 46, (boot_o_7 E.P)), (nat_lit 48, (o37 E)), (nat_lit 49, (o38 E)), (nat_lit 50, (boot_o_7 E.P)), (nat_lit 52, (o39 E)), (nat_lit 53, (boot_o_7 E.P)), (nat_lit 55, (o41 E)), (nat_lit 56, (o42 E)), (nat_lit 57, (boot_o_7 E.P)), (nat_lit 59, (o43 E)), (nat_lit 60, (boot_o_7 E.P)), (nat_lit 62, (o45 E)), (nat_lit 63, (o46 E)), (nat_lit 64, (boot_o_7 E.P)), (nat_lit 66, (o47 E)), (nat_lit 67, (boot_o_7 E.P)), (nat_lit 69, (o49 E)), (nat_lit 70, (o50 E)), (nat_lit 71, (boot_o_7 E.P)), (nat_lit 73, (o51 E)), (nat_lit 74, (boot_o_7 E.P)), (nat_lit 76, (o53 E)), (nat_lit 77, (o54 E)), (nat_lit 78, (boot_o_7 E.P)), (nat_lit 80, (o55 E)), (nat_lit 81, (boot_o_7 E.P)), (nat_lit 83, (o57 E)), (nat_lit 84, (o58 E)), (nat_lit 85, (boot_o_7 E.P)), (nat_lit 87, (o59 E)), (nat_lit 88, (boot_o_7 E.P)), (nat_lit 90, (o61 E)), (nat_lit 91, (o62 E)), (nat_lit 92, (boot_o_7 E.P)), (nat_lit 94, (o63 E)), (nat_lit 95, (boot_o_7 E.P)), (nat_lit 97, (o65 E)), (nat_lit 98, (o66 E)), (nat_lit 99, (boot_o_7 E.P)), (nat_lit 101, (o67 E)), (nat_lit 102, (boot_o_7 E.P)), (nat_lit 104, (o69 E)), (nat_lit 105, (o70 E)), (nat_lit 106, (boot_o_7 E.P)), (nat_lit 108, (o71 E)), (nat_lit 109, (boot_o_7 E.P)), (nat_lit 111, (o73 E)), (nat_lit 112, (o74 E)), (nat_lit 113, (boot_o_7 E.P)), (nat_lit 115, (o75 E)), (nat_lit 116, (boot_o_7 E.P)), (nat_lit 118, (o77 E)), (nat_lit 119, (o78 E)), (nat_lit 120, (boot_o_7 E.P)), (nat_lit 122, (o79 E)), (nat_lit 123, (boot_o_7 E.P)), (nat_lit 125, (o81 E)), (nat_lit 126, (o82 E)), (nat_lit 127, (boot_o_7 E.P)), (nat_lit 129, (o83 E)), (nat_lit 130, (boot_o_7 E.P)), (nat_lit 132, (o85 E)), (nat_lit 133, (o86 E)), (nat_lit 134, (boot_o_7 E.P)), (nat_lit 136, (o87 E)), (nat_lit 137, (boot_o_7 E.P)), (nat_lit 139, (o89 E)), (nat_lit 140, (o90 E)), (nat_lit 141, (boot_o_7 E.P)), (nat_lit 143, (o91 E)), (nat_lit 144, (boot_o_7 E.P)), (nat_lit 146, (o93 E)), (nat_lit 147, (o94 E)), (nat_lit 148, (boot_o_7 E.P)), (nat_lit 150, (o95 E)), (nat_lit 151, (boot_o_7 E.P)), (nat_lit 153, (o97 E)), (nat_lit 154, (o98 E)), (nat_lit 155, (boot_o_7 E.P)), (nat_lit 157, (o99 E)), (nat_lit 158, (boot_o_7 E.P)), (nat_lit 160, (o101 E)), (nat_lit 161, (o102 E)), (nat_lit 162, (boot_o_7 E.P)), (nat_lit 164, (o103 E)), (nat_lit 165, (boot_o_7 E.P)), (nat_lit 167, (o105 E)), (nat_lit 168, (o106 E)), (nat_lit 169, (boot_o_7 E.P)), (nat_lit 171, (o107 E)), (nat_lit 172, (boot_o_7 E.P)), (nat_lit 174, (o109 E)), (nat_lit 175, (o110 E)), (nat_lit 176, (boot_o_7 E.P)), (nat_lit 178, (o111 E)), (nat_lit 179, (boot_o_7 E.P)), (nat_lit 181, (o113 E)), (nat_lit 182, (o114 E)), (nat_lit 183, (boot_o_7 E.P)), (nat_lit 185, (o115 E)), (nat_lit 186, (boot_o_7 E.P)), (nat_lit 188, (o117 E)), (nat_lit 189, (o118 E)), (nat_lit 190, (boot_o_7 E.P)), (nat_lit 193, (o120 E)), (nat_lit 194, (o121 E)), (nat_lit 195, (o122 E)), (nat_lit 196, (o123 E)), (nat_lit 197, (o426 E)), (nat_lit 198, (o125 E)), (nat_lit 199, (o126 E)), (nat_lit 209, (boot_o_7 E.P)), (nat_lit 211, (o133 E)), (nat_lit 212, (boot_o_7 E.P)), (nat_lit 214, (o135 E)), (nat_lit 215, (o136 E)), (nat_lit 216, (o137 E)), (nat_lit 217, (o138 E)), (nat_lit 218, (o139 E)), (nat_lit 219, (o140 E)), (nat_lit 220, (o141 E)), (nat_lit 223, (o331 E)), (nat_lit 230, (setO E.X)), (nat_lit 231, (setO E.Y)), (nat_lit 232, (setO E.Z)), (nat_lit 233, (boot_o_7 E.P)), (nat_lit 235, (o429 E)), (nat_lit 236, (boot_o_7 E.P)), (nat_lit 238, (o431 E)), (nat_lit 239, (o432 E)), (nat_lit 240, (boot_o_7 E.P)), (nat_lit 242, (o433 E)), (nat_lit 243, (boot_o_7 E.P)), (nat_lit 245, (o435 E)), (nat_lit 246, (o436 E)), (nat_lit 247, (boot_o_7 E.P)), (nat_lit 249, (o437 E)), (nat_lit 250, (boot_o_7 E.P)), (nat_lit 252, (o439 E)), (nat_lit 253, (o440 E)), (nat_lit 254, (boot_o_7 E.P)), (nat_lit 256, (o441 E)), (nat_lit 257, (boot_o_7 E.P)), (nat_lit 259, (o443 E)), (nat_lit 260, (o444 E)), (nat_lit 261, (boot_o_7 E.P)), (nat_lit 263, (o445 E)), (nat_lit 264, (boot_o_7 E.P)), (nat_lit 266, (o447 E)), (nat_lit 267, (o448 E)), (nat_lit 268, (boot_o_7 E.P)), (nat_lit 270, (o449 E)), (nat_lit 271, (boot_o_7 E.P)), (nat_lit 273, (o451 E)), (nat_lit 274, (o452 E)), (nat_lit 275, (o453 E)), (nat_lit 276, (o454 E)), (nat_lit 278, (o456 E)), (nat_lit 279, (o457 E)), (nat_lit 281, (o459 E)), (nat_lit 282, (o460 E)), (nat_lit 284, (o462 E)), (nat_lit 285, (o463 E)), (nat_lit 287, (o465 E)), (nat_lit 288, (o466 E)), (nat_lit 290, (o468 E)), (nat_lit 291, (o469 E)), (nat_lit 293, (o471 E)), (nat_lit 294, (o472 E)), (nat_lit 296, (o474 E)), (nat_lit 297, (o475 E)), (nat_lit 299, (o477 E)), (nat_lit 300, (o478 E)), (nat_lit 302, (o480 E)), (nat_lit 303, (o481 E)), (nat_lit 305, (o483 E)), (nat_lit 306, (o484 E)), (nat_lit 308, (o486 E)), (nat_lit 309, (o487 E)), (nat_lit 311, (o489 E)), (nat_lit 312, (o490 E)), (nat_lit 314, (o492 E)), (nat_lit 315, (o493 E)), (nat_lit 317, (o495 E)), (nat_lit 318, (o496 E)), (nat_lit 320, (o498 E)), (nat_lit 321, (o499 E)), (nat_lit 323, (o501 E)), (nat_lit 324, (o502 E)), (nat_lit 326, (o504 E)), (nat_lit 327, (o505 E)), (nat_lit 329, (o507 E)), (nat_lit 330, (o508 E)), (nat_lit 332, (o510 E)), (nat_lit 333, (o511 E)), (nat_lit 335, (o513 E)), (nat_lit 336, (o514 E)), (nat_lit 338, (o516 E)), (nat_lit 339, (o517 E)), (nat_lit 341, (o519 E)), (nat_lit 342, (o520 E)), (nat_lit 344, (o522 E)), (nat_lit 345, (o523 E)), (nat_lit 347, (o525 E)), (nat_lit 348, (o526 E)), (nat_lit 350, (o528 E)), (nat_lit 351, (o529 E)), (nat_lit 353, (o531 E)), (nat_lit 354, (o532 E)), (nat_lit 356, (o534 E)), (nat_lit 357, (o535 E)), (nat_lit 359, (o537 E)), (nat_lit 360, (o538 E)), (nat_lit 362, (o540 E)), (nat_lit 363, (o541 E)), (nat_lit 365, (o543 E)), (nat_lit 366, (o544 E)), (nat_lit 368, (o546 E)), (nat_lit 369, (o547 E)), (nat_lit 371, (o549 E)), (nat_lit 372, (o550 E)), (nat_lit 373, (o551 E)), (nat_lit 375, (o553 E)), (nat_lit 376, (o554 E)), (nat_lit 378, (o556 E)), (nat_lit 379, (o557 E)), (nat_lit 381, (o559 E)), (nat_lit 382, (o560 E)), (nat_lit 384, (o562 E)), (nat_lit 385, (o563 E)), (nat_lit 386, (o564 E)), (nat_lit 388, (o566 E)), (nat_lit 389, (o567 E)), (nat_lit 391, (o569 E)), (nat_lit 392, (o570 E)), (nat_lit 394, (o572 E)), (nat_lit 395, (o573 E)), (nat_lit 397, (o575 E)), (nat_lit 398, (o576 E)), (nat_lit 400, (o578 E)), (nat_lit 401, (o579 E)), (nat_lit 402, (o580 E)), (nat_lit 403, (o581 E)), (nat_lit 406, (o985 E)), (nat_lit 413, (boot_o_7 E.P)), (nat_lit 414, (o989 E)), (nat_lit 415, (o990 E)), (nat_lit 416, (o991 E)), (nat_lit 419, (o985 E)), (nat_lit 426, (boot_o_7 E.P)), (nat_lit 427, (o997 E)), (nat_lit 428, (o998 E)), (nat_lit 429, (o999 E)), (nat_lit 432, (o985 E)), (nat_lit 439, (boot_o_7 E.P)), (nat_lit 440, (o1005 E)), (nat_lit 441, (o1006 E)), (nat_lit 442, (o1007 E)), (nat_lit 445, (o1010 E)), (nat_lit 446, (boot_o_7 E.P)), (nat_lit 448, (boot_o_7 E.P)), (nat_lit 449, (boot_o_7 E.P)), (nat_lit 451, (o1012 E)), (nat_lit 452, (o1013 E)), (nat_lit 453, (boot_o_7 E.P)), (nat_lit 455, (boot_o_7 E.P)), (nat_lit 456, (boot_o_7 E.P)), (nat_lit 458, (o1015 E)), (nat_lit 459, (o1016 E)), (nat_lit 460, (boot_o_7 E.P)), (nat_lit 462, (boot_o_7 E.P)), (nat_lit 463, (boot_o_7 E.P)), (nat_lit 465, (o1018 E)), (nat_lit 466, (o1019 E)), (nat_lit 467, (o1020 E)), (nat_lit 468, (o1021 E)), (nat_lit 469, (o1022 E)), (nat_lit 470, (o1023 E)), (nat_lit 471, (o1024 E)), (nat_lit 472, (boot_o_7 E.P)), (nat_lit 474, (o1025 E)), (nat_lit 475, (boot_o_7 E.P)), (nat_lit 477, (o1027 E)), (nat_lit 478, (o1028 E)), (nat_lit 479, (boot_o_7 E.P)), (nat_lit 481, (o1029 E)), (nat_lit 482, (boot_o_7 E.P)), (nat_lit 484, (o1031 E)), (nat_lit 485, (o1032 E)), (nat_lit 486, (boot_o_7 E.P)), (nat_lit 488, (o1033 E)), (nat_lit 489, (boot_o_7 E.P)), (nat_lit 491, (o1035 E)), (nat_lit 492, (o1036 E)), (nat_lit 493, (boot_o_7 E.P)), (nat_lit 495, (o1037 E)), (nat_lit 496, (boot_o_7 E.P)), (nat_lit 498, (o1039 E)), (nat_lit 499, (o1040 E)), (nat_lit 500, (boot_o_7 E.P)), (nat_lit 503, (o1042 E)), (nat_lit 504, (o1043 E))]
noncomputable def KF (P : Params) : Frag := KE (Wp P)
theorem KF_as : ∀ P, KA = (KF P).map (·.1) := fun P => by kernel_rfl
noncomputable def qv : Program := { pw with main := { pw.main with body := [topS 0, topS 2, topS 4, topS 6, topS 7, topS 8, topS 9, topS 11, topS 12, topS 13, topS 14, topS 15, topS 16, topS 17, topS 18, topS 19, topS 20, topS 21, topS 22, topS 23, topS 24] } }
noncomputable def lv : List Str := [Str.ofString "DanishStemmer", Str.ofString "_law_signs", Str.ofString "_law_main", Str.ofString "_law_pairs", Str.ofString "_law_other", Str.ofString "_law_more", Str.ofString "_law_sizes"]
noncomputable abbrev rw : OpenLaw := PySem.Challenge.rw_ip0001_01
noncomputable def XtF (s : Shared) : Bool := xlAt qv [] s && recOk (RowW.records PySem.Challenge.rw_ip0001_01.row.toRowW) s
noncomputable def Q0_l := fun (P q : Program) (l : List Str) (b : Heap) (xt : Shared → Bool) (t : SharedT) => (staticsOk (importedModules P.main.body) b t.abs.heap && namesBound P t.abs.heap && gensDone t.abs && laidKept b t.abs.heap)
theorem Q0_le : Q0_l = Q0_l := rfl
name_quick Q0_lq for Q0_l by Q0_le
theorem Q0 (w : World) (os : OsState) (X Y Z : SetP) : (staticsOk (importedModules pw.main.body) (boot_heap w.params) (S25 ⟨w.params, X, Y, Z⟩ os).abs.heap && namesBound pw (S25 ⟨w.params, X, Y, Z⟩ os).abs.heap && gensDone (S25 ⟨w.params, X, Y, Z⟩ os).abs && laidKept (boot_heap w.params) (S25 ⟨w.params, X, Y, Z⟩ os).abs.heap) = true := by
  show Q0_l pw qv lv (boot_heap w.params) XtF (S25 ⟨w.params, X, Y, Z⟩ os) = true
  rw [PySem.W.Fast.Q0_lq_eq]; kernel_rfl
noncomputable def Q1_l := fun (P q : Program) (l : List Str) (b : Heap) (xt : Shared → Bool) (t : SharedT) => seen ((recsOf q).map (·.name)) (ownsOf q) [] { t.abs with gens := #[] }
theorem Q1_le : Q1_l = Q1_l := rfl
name_quick Q1_lq for Q1_l by Q1_le
theorem Q1 (w : World) (os : OsState) (X Y Z : SetP) : seen ((recsOf qv).map (·.name)) (ownsOf qv) [] { (S25 ⟨w.params, X, Y, Z⟩ os).abs with gens := #[] } = expectedOf qv := by
  show Q1_l pw qv lv (boot_heap w.params) XtF (S25 ⟨w.params, X, Y, Z⟩ os) = expectedOf qv
  rw [PySem.W.Fast.Q1_lq_eq]; kernel_rfl
theorem Q2 (w : World) (os : OsState) (X Y Z : SetP) : (S25 ⟨w.params, X, Y, Z⟩ os).abs.heap.bltView = bltViewBooted := by kernel_rfl
noncomputable def Q3_l := fun (P q : Program) (l : List Str) (b : Heap) (xt : Shared → Bool) (t : SharedT) => (t.abs.heap.keysOk (looseW q l) ((recsOf q).map (·.name)) ((litsOf q).map (·.1)) ((clssOf q (looseW q l)).map (·.name)) && t.abs.heap.accountedOkI (importedModules P.main.body) && t.abs.heap.isNs mainGlobals && t.abs.heap.isNs builtinsNs && tablesOk q t.abs.heap && xt t.abs && (if true then t.abs.gens.size == 0 else !leftWithCleanup t.abs.gens))
theorem Q3_le : Q3_l = Q3_l := rfl
name_quick Q3_lq for Q3_l by Q3_le
theorem Q3 (w : World) (os : OsState) (X Y Z : SetP) : ((S25 ⟨w.params, X, Y, Z⟩ os).abs.heap.keysOk (looseW qv lv) ((recsOf qv).map (·.name)) ((litsOf qv).map (·.1)) ((clssOf qv (looseW qv lv)).map (·.name)) && (S25 ⟨w.params, X, Y, Z⟩ os).abs.heap.accountedOkI (importedModules pw.main.body) && (S25 ⟨w.params, X, Y, Z⟩ os).abs.heap.isNs mainGlobals && (S25 ⟨w.params, X, Y, Z⟩ os).abs.heap.isNs builtinsNs && tablesOk qv (S25 ⟨w.params, X, Y, Z⟩ os).abs.heap && XtF (S25 ⟨w.params, X, Y, Z⟩ os).abs && (if true then (S25 ⟨w.params, X, Y, Z⟩ os).abs.gens.size == 0 else !leftWithCleanup (S25 ⟨w.params, X, Y, Z⟩ os).abs.gens)) = true := by
  show Q3_l pw qv lv (boot_heap w.params) XtF (S25 ⟨w.params, X, Y, Z⟩ os) = true
  rw [PySem.W.Fast.Q3_lq_eq]; kernel_rfl
noncomputable def Q4_l := fun (P q : Program) (l : List Str) (b : Heap) (xt : Shared → Bool) (t : SharedT) => tabsOk q t.abs
theorem Q4_le : Q4_l = Q4_l := rfl
name_quick Q4_lq for Q4_l by Q4_le
theorem Q4 (w : World) (os : OsState) (X Y Z : SetP) : tabsOk qv (S25 ⟨w.params, X, Y, Z⟩ os).abs = true := by
  show Q4_l pw qv lv (boot_heap w.params) XtF (S25 ⟨w.params, X, Y, Z⟩ os) = true
  rw [PySem.W.Fast.Q4_lq_eq]; kernel_rfl
noncomputable def Q5_l := fun (P q : Program) (l : List Str) (b : Heap) (xt : Shared → Bool) (t : SharedT) => pinSeenD q (drecsOf q) t.abs
theorem Q5_le : Q5_l = Q5_l := rfl
name_quick Q5_lq for Q5_l by Q5_le
noncomputable def Q5_r := fun (P q : Program) (l : List Str) (b : Heap) (xt : Shared → Bool) (t : SharedT) => pinGoodD (drecsOf q)
theorem Q5_re : Q5_r = Q5_r := rfl
name_quick Q5_rq for Q5_r by Q5_re
theorem Q5 (w : World) (os : OsState) (X Y Z : SetP) : pinSeenD qv (drecsOf qv) (S25 ⟨w.params, X, Y, Z⟩ os).abs = pinGoodD (drecsOf qv) := by
  show Q5_l pw qv lv (boot_heap w.params) XtF (S25 ⟨w.params, X, Y, Z⟩ os) = Q5_r pw qv lv (boot_heap w.params) XtF (S25 ⟨w.params, X, Y, Z⟩ os)
  rw [PySem.W.Fast.Q5_lq_eq, PySem.W.Fast.Q5_rq_eq]; kernel_rfl
noncomputable def Q6_l := fun (P q : Program) (l : List Str) (b : Heap) (xt : Shared → Bool) (t : SharedT) => plainSeenE q (looseW q l) t.abs
theorem Q6_le : Q6_l = Q6_l := rfl
name_quick Q6_lq for Q6_l by Q6_le
noncomputable def Q6_r := fun (P q : Program) (l : List Str) (b : Heap) (xt : Shared → Bool) (t : SharedT) => plainGoodE q (looseW q l)
theorem Q6_re : Q6_r = Q6_r := rfl
name_quick Q6_rq for Q6_r by Q6_re
theorem Q6 (w : World) (os : OsState) (X Y Z : SetP) : plainSeenE qv (looseW qv lv) (S25 ⟨w.params, X, Y, Z⟩ os).abs = plainGoodE qv (looseW qv lv) := by
  show Q6_l pw qv lv (boot_heap w.params) XtF (S25 ⟨w.params, X, Y, Z⟩ os) = Q6_r pw qv lv (boot_heap w.params) XtF (S25 ⟨w.params, X, Y, Z⟩ os)
  rw [PySem.W.Fast.Q6_lq_eq, PySem.W.Fast.Q6_rq_eq]; kernel_rfl
noncomputable def Q7_l := fun (P q : Program) (l : List Str) (b : Heap) (xt : Shared → Bool) (t : SharedT) => plainSeenD q l t.abs
theorem Q7_le : Q7_l = Q7_l := rfl
name_quick Q7_lq for Q7_l by Q7_le
theorem Q7 (w : World) (os : OsState) (X Y Z : SetP) : plainSeenD qv lv (S25 ⟨w.params, X, Y, Z⟩ os).abs = plainGoodD qv lv := by
  show Q7_l pw qv lv (boot_heap w.params) XtF (S25 ⟨w.params, X, Y, Z⟩ os) = plainGoodD qv lv
  rw [PySem.W.Fast.Q7_lq_eq]; kernel_rfl
noncomputable def Q8_l := fun (P q : Program) (l : List Str) (b : Heap) (xt : Shared → Bool) (t : SharedT) => wideSeen q t.abs
theorem Q8_le : Q8_l = Q8_l := rfl
name_quick Q8_lq for Q8_l by Q8_le
theorem Q8 (w : World) (os : OsState) (X Y Z : SetP) : wideSeen qv (S25 ⟨w.params, X, Y, Z⟩ os).abs = wideGood qv := by
  show Q8_l pw qv lv (boot_heap w.params) XtF (S25 ⟨w.params, X, Y, Z⟩ os) = wideGood qv
  rw [PySem.W.Fast.Q8_lq_eq]; kernel_rfl
noncomputable def Q9_l := fun (P q : Program) (l : List Str) (b : Heap) (xt : Shared → Bool) (t : SharedT) => clsSeenW q l t.abs
theorem Q9_le : Q9_l = Q9_l := rfl
name_quick Q9_lq for Q9_l by Q9_le
theorem Q9 (w : World) (os : OsState) (X Y Z : SetP) : clsSeenW qv lv (S25 ⟨w.params, X, Y, Z⟩ os).abs = clsGoodW qv lv := by
  show Q9_l pw qv lv (boot_heap w.params) XtF (S25 ⟨w.params, X, Y, Z⟩ os) = clsGoodW qv lv
  rw [PySem.W.Fast.Q9_lq_eq]; kernel_rfl
theorem QY (w : World) (os : OsState) (X Y Z : SetP) : KA.map (fun a => (S25_t ⟨w.params, X, Y, Z⟩).get a) = (KE ⟨w.params, X, Y, Z⟩).map fun p => some p.2 := by kernel_rfl
theorem QA (w : World) (os : OsState) (X Y Z : SetP) : (KA.all (fun a => Nat.blt a 505) && (KE ⟨w.params, X, Y, Z⟩).all fun p => (alive p.2).isSome) = true := by kernel_rfl
theorem QS (w : World) : ((boot_heap w.params).isNs mainGlobals && (Array.mk [] : Array GenState).size == 0, (boot_heap w.params).objs.size, (boot_heap w.params).nsMap mainGlobals "__annotations__") = (true, 11, (some (.ref 6) : Option Value)) := by kernel_rfl

theorem alive_is {o o' : Obj} (h : alive o = some o') : o' = o := by
  obtain ⟨c, d, dt, sl⟩ := o
  cases dt <;> first | (cases h; rfl) | cases h
theorem look_all {T : BT} {n : Nat} {life : Life} : ∀ {as : List Nat} {K : Frag}, as.map (fun a => T.get a) = K.map (fun p => some p.2) → (as.all (fun a => Nat.blt a n) && K.all fun p => (alive p.2).isSome) = true →
    as.map (absHeap T n life).get? = K.map fun p => some p.2
  | [], [], _, _ => rfl
  | [], _ :: _, h, _ => by cases h
  | _ :: _, [], h, _ => by cases h
  | a :: as, p :: K, h, e => by
    simp only [List.map_cons, List.cons.injEq] at h
    simp only [List.all_cons, Bool.and_eq_true] at e
    obtain ⟨⟨e1, e2⟩, e3, e4⟩ := e
    have ih := look_all (life := life) h.2 (by rw [Bool.and_eq_true]; exact ⟨e2, e4⟩)
    simp only [List.map_cons]
    rw [ih, abs_get (Nat.le_of_ble_eq_true e1) h.1]
    obtain ⟨o', ho⟩ := Option.isSome_iff_exists.mp e3
    rw [ho, alive_is ho]
theorem opening_is : opening pw = plainProg pw.main.scope.names := by kernel_rfl
theorem fence_is : ∀ s, fenceModules? pw s = some s := by intro s; kernel_rfl
noncomputable abbrev HK : Hook := kHook KF KA KF_as
theorem seen_good (w : World) (os : OsState) : openSeen qv lv (importedModules pw.main.body) XtF true (S25 (EndW w) os).abs = openGood qv lv := by
  unfold openSeen openGood
  exact looks_pair (Q1 w os (end0 w) (end1 w) (end2 w)) (looks_pair (Q2 w os (end0 w) (end1 w) (end2 w)) (looks_pair (Q3 w os (end0 w) (end1 w) (end2 w)) (looks_pair (Q4 w os (end0 w) (end1 w) (end2 w))
    (looks_pair (Q5 w os (end0 w) (end1 w) (end2 w)) (looks_pair (Q6 w os (end0 w) (end1 w) (end2 w)) (looks_pair (Q7 w os (end0 w) (end1 w) (end2 w)) (looks_pair (Q8 w os (end0 w) (end1 w) (end2 w)) (Q9 w os (end0 w) (end1 w) (end2 w)))))))))
theorem left : LeftO pw qv lv XtF HK.obs HK.val 11337 := by
  refine LeftO.of_pieces (H₀ := fun P => boot_heap P) (H₁ := fun P => absHeap (S25_t (Wp P)) 505 lifeH) (gs₀ := Array.mk []) (gs₁ := Array.mk []) (d₀ := boot_drawn) (d₁ := Drawn.mk 0 0 0 0) (k₀ := boot_toks) (k₁ := 1437) (m₀ := 11) (ann := some (.ref 6)) (M := 11337)
    (boot_open opening_is (by decide) fence_is) (fun w => QS w) (fun w os => ?_) (by decide) (fun w => ?_)
  · exact top_run w os
  · funext os
    refine looks_pair (Q0 w os (end0 w) (end1 w) (end2 w)) (looks_pair (seen_good w os) ?_)
    exact look_all (QY w os (end0 w) (end1 w) (end2 w)) (QA w os (end0 w) (end1 w) (end2 w))

end DaHead
open PySem PySem.W PyProof.Rows
set_option Elab.async false
set_option genSizeOfSpec false
set_option bootstrap.genMatcherCode false
set_option linter.unusedVariables false
namespace DaWalk

/-- the names that the walked defs use -/
inductive Nm where
  | self | value | s | v | w | word | words | i | j | c | lb | commonI | commonJ | fki | k | diff | common | i2 | adjustment | cBra | cKet
  | v1 | v2 | v3 | v4 | amongVar | sCh
  | current | cursor | limit | limitBackward | bra | ket | ip1
  | subI | result
  | place | met | text | ends | end_ | found | first | stem | last
  | gUndouble | gV | gS | a0 | a1 | a2
  | lawMain | lawPairs | lawOther
  | setCurrent | getCurrent | goIn | inGroupingB | goOut | eqSB | findAmongB | replaceS | sliceFrom | sliceDel | sliceTo | stemWord | rMark | rMain | rPair | rOther | rUndouble | stem_
  | lVowels | lBefore | lDoubled | lRegion | lEnd | lPair | lStem
  | lab0 | lab1 | lab2 | init_
  deriving DecidableEq
noncomputable def nm : Nm → Str
  | .self => Str.ofString "self" | .value => Str.ofString "value" | .s => Str.ofString "s" | .v => Str.ofString "v" | .w => Str.ofString "w" | .word => Str.ofString "word" | .words => Str.ofString "words" | .i => Str.ofString "i" | .j => Str.ofString "j" | .c => Str.ofString "c" | .lb => Str.ofString "lb"
  | .commonI => Str.ofString "common_i" | .commonJ => Str.ofString "common_j" | .fki => Str.ofString "first_key_inspected" | .k => Str.ofString "k" | .diff => Str.ofString "diff" | .common => Str.ofString "common" | .i2 => Str.ofString "i2" | .adjustment => Str.ofString "adjustment" | .cBra => Str.ofString "c_bra" | .cKet => Str.ofString "c_ket"
  | .v1 => Str.ofString "v_1" | .v2 => Str.ofString "v_2" | .v3 => Str.ofString "v_3" | .v4 => Str.ofString "v_4" | .amongVar => Str.ofString "among_var" | .sCh => Str.ofString "S_ch"
  | .current => Str.ofString "current" | .cursor => Str.ofString "cursor" | .limit => Str.ofString "limit" | .limitBackward => Str.ofString "limit_backward" | .bra => Str.ofString "bra" | .ket => Str.ofString "ket" | .ip1 => Str.ofString "I_p1"
  | .subI => Str.ofString "substring_i" | .result => Str.ofString "result"
  | .place => Str.ofString "place" | .met => Str.ofString "met" | .text => Str.ofString "text" | .ends => Str.ofString "ends" | .end_ => Str.ofString "end" | .found => Str.ofString "found" | .first => Str.ofString "first" | .stem => Str.ofString "stem" | .last => Str.ofString "last"
  | .gUndouble => Str.ofString "g_undouble_c" | .gV => Str.ofString "g_v" | .gS => Str.ofString "g_s_ending" | .a0 => Str.ofString "a_0" | .a1 => Str.ofString "a_1" | .a2 => Str.ofString "a_2"
  | .lawMain => Str.ofString "_law_main" | .lawPairs => Str.ofString "_law_pairs" | .lawOther => Str.ofString "_law_other"
  | .setCurrent => Str.ofString "set_current" | .getCurrent => Str.ofString "get_current" | .goIn => Str.ofString "go_in_grouping" | .inGroupingB => Str.ofString "in_grouping_b" | .goOut => Str.ofString "go_out_grouping" | .eqSB => Str.ofString "eq_s_b" | .findAmongB => Str.ofString "find_among_b"
  | .replaceS => Str.ofString "replace_s" | .sliceFrom => Str.ofString "slice_from" | .sliceDel => Str.ofString "slice_del" | .sliceTo => Str.ofString "slice_to" | .stemWord => Str.ofString "stemWord" | .rMark => Str.ofString "r_mark_regions" | .rMain => Str.ofString "r_main_suffix" | .rPair => Str.ofString "r_consonant_pair"
  | .rOther => Str.ofString "r_other_suffix" | .rUndouble => Str.ofString "r_undouble" | .stem_ => Str.ofString "_stem"
  | .lVowels => Str.ofString "_law_vowels" | .lBefore => Str.ofString "_law_before" | .lDoubled => Str.ofString "_law_doubled" | .lRegion => Str.ofString "_law_region" | .lEnd => Str.ofString "_law_end" | .lPair => Str.ofString "_law_pair" | .lStem => Str.ofString "_law_stem"
  | .lab0 => Str.ofString "lab0" | .lab1 => Str.ofString "lab1" | .lab2 => Str.ofString "lab2" | .init_ => Str.ofString "__init__"
noncomputable def Nm.all : List Nm := [.self, .value, .s, .v, .w, .word, .words, .i, .j, .c, .lb, .commonI, .commonJ, .fki, .k, .diff, .common, .i2, .adjustment, .cBra, .cKet, .v1, .v2, .v3, .v4, .amongVar, .sCh, .current, .cursor, .limit, .limitBackward, .bra, .ket, .ip1, .subI, .result,
  .place, .met, .text, .ends, .end_, .found, .first, .stem, .last, .gUndouble, .gV, .gS, .a0, .a1, .a2, .lawMain, .lawPairs, .lawOther, .setCurrent, .getCurrent, .goIn, .inGroupingB, .goOut, .eqSB, .findAmongB, .replaceS, .sliceFrom, .sliceDel, .sliceTo, .stemWord, .rMark, .rMain, .rPair, .rOther, .rUndouble, .stem_,
  .lVowels, .lBefore, .lDoubled, .lRegion, .lEnd, .lPair, .lStem, .lab0, .lab1, .lab2, .init_]
theorem at_all (n : Nm) : Nm.all[n.ctorIdx]? = some n := by cases n <;> rfl
theorem mem_all (n : Nm) : n ∈ Nm.all := List.mem_of_getElem? (at_all n)
theorem all_nm {p : Nm → Bool} (h : Nm.all.all p = true) (n : Nm) : p n = true := List.all_eq_true.mp h n (mem_all n)
theorem nm_inj0 : (Nm.all.all fun a => Nm.all.all fun b => (nm a != nm b) || decide (a = b)) = true := by decide +kernel
theorem nm_inj {a b : Nm} (h : nm a = nm b) : a = b := by
  have := List.all_eq_true.mp (List.all_eq_true.mp nm_inj0 a (mem_all a)) b (mem_all b)
  rw [h] at this
  simpa using this

structure Am where
  s : List Nat
  sub : Int
  res : Int
  deriving DecidableEq
/-- the values that the walked defs handle -/
inductive MV where
  | none | bool (b : Bool) | int (i : Int) | str (s : List Nat) | lstS (l : List (List Nat)) | sset (l : List Nat) | ams (l : List Am) | am (a : Am) | self
  deriving DecidableEq
set_option genInjectivity false
/-- expressions; places are left out -/
inductive ME where
  | none | bool (b : Bool) | int (i : Int) | str (s : List Nat) | neg1
  | loc (n : Nm) | fld (n : Nm) | clsv (n : Nm) | glob (n : Nm)
  | add (a b : ME) | sub (a b : ME) | shr1 (a : ME)
  | cmp (op : CmpOp) (a b : ME) | inFn (a : ME) (f : Nm)
  | len (a : ME) | ord (a : ME) | min (a b : ME) | max (a b : ME)
  | idx (a b : ME) | slc (a b c : ME) | slcFrom (a b : ME) | slcTo (a c : ME)
  | endsw (a b : ME) | amf (n f : Nm)
  | call0 (m : Nm) | call1 (m : Nm) (a : ME) | call3 (m : Nm) (a b c : ME)
  | fn1 (f : Nm) (a : ME) | fn2 (f : Nm) (a b : ME)
  | not (a : ME) | or (a b : ME) | and (a b : ME) | and3 (a b c : ME)
mutual
inductive M1 where
  | asgL (n : Nm) (e : ME) | asgF (n : Nm) (e : ME) | addL (n : Nm) (e : ME) | addF (n : Nm) (e : ME) | subF (n : Nm) (e : ME)
  | ifs (t : ME) (a b : MS)
  | whil (t : ME) (b : MS)
  | forDown (n : Nm) (e : ME) (b : MS)
  | forUp (n : Nm) (e : ME) (b : MS)
  | forStrs (n : Nm) (e : ME) (b : MS)
  | brk | pass | ret (e : ME) | expr (e : ME) | assert (t : ME) | try_ (b : MS) (l : Nm) | raise_ (l : Nm)
inductive MS where
  | nil
  | cons (a : M1) (r : MS)
end
set_option genInjectivity true

theorem ctor_inj0 : (Nm.all.all fun a => Nm.all.all fun b => !(Nat.beq a.ctorIdx b.ctorIdx) || decide (a = b)) = true := by decide +kernel
theorem ctor_inj {a b : Nm} (h : a.ctorIdx = b.ctorIdx) : a = b := by
  have := List.all_eq_true.mp (List.all_eq_true.mp ctor_inj0 a (mem_all a)) b (mem_all b)
  rw [h, show Nat.beq b.ctorIdx b.ctorIdx = true from Nat.beq_refl _] at this
  simpa using this
/-- a row of names -/
noncomputable def rng (a b n : Nm) : Bool := Nat.ble a.ctorIdx n.ctorIdx && Nat.ble n.ctorIdx b.ctorIdx
noncomputable def idxN (a n : Nm) : Nat := n.ctorIdx - a.ctorIdx
/-- the fields of a stemmer -/
noncomputable def isFld (n : Nm) : Bool := rng .current .ip1 n
noncomputable def isMeth (n : Nm) : Bool := rng .setCurrent .stem_ n || Nat.beq n.ctorIdx Nm.init_.ctorIdx
noncomputable def isDefN (n : Nm) : Bool := rng .lVowels .lStem n
noncomputable def isLab (n : Nm) : Bool := rng .lab0 .lab2 n
/-! a tree built again out of a mini tree, its places taken from a given tree -/
section
open PySem (Expr Stmt)
noncomputable def dE : Expr := .Name (nm .self) default
noncomputable def kids : Expr → List Expr
  | .BoolOp _ l _ => l | .BinOp l _ r _ => [l, r] | .UnaryOp _ e _ => [e] | .Compare l _ r _ => l :: r | .Call f a _ _ => f :: a | .Attribute e _ _ => [e] | .Subscript x y _ => [x, y]
  | .Slice a b c _ => [a.getD dE, b.getD dE, c.getD dE] | _ => []
noncomputable def kid (i : Nat) (x : Expr) : Expr := (kids x).getD i dE
noncomputable def kp (i : Nat) (x : Expr) : Pos := (kid i x).pos
noncomputable def kOf : Expr → Nat | .Constant _ k _ => k | _ => 0
noncomputable def cInt (i : Int) (x : Expr) : Expr := .Constant (.int i) (kOf x) x.pos
noncomputable def rb : ME → Expr → Expr
  | .none, x => .Constant .none (kOf x) x.pos
  | .bool b, x => .Constant (.bool b) (kOf x) x.pos
  | .int i, x => .Constant (.int i) (kOf x) x.pos
  | .str l, x => .Constant (.str ⟨l.toArray⟩) (kOf x) x.pos
  | .neg1, x => .UnaryOp .USub (.Constant (.int 1) (kOf (kid 0 x)) (kp 0 x)) x.pos
  | .loc n, x => .Name (nm n) x.pos
  | .fld n, x => .Attribute (.Name (nm .self) (kp 0 x)) (nm n) x.pos
  | .clsv n, x => .Attribute (.Name (Str.ofString "DanishStemmer") (kp 0 x)) (nm n) x.pos
  | .glob n, x => .Name (nm n) x.pos
  | .add a b, x => .BinOp (rb a (kid 0 x)) .Add (rb b (kid 1 x)) x.pos
  | .sub a b, x => .BinOp (rb a (kid 0 x)) .Sub (rb b (kid 1 x)) x.pos
  | .shr1 a, x => .BinOp (rb a (kid 0 x)) .RShift (.Constant (.int 1) (kOf (kid 1 x)) (kp 1 x)) x.pos
  | .cmp op a b, x => .Compare (rb a (kid 0 x)) [op] [rb b (kid 1 x)] x.pos
  | .inFn a f, x => .Compare (rb a (kid 0 x)) [.In] [.Call (.Name (nm f) (kp 0 (kid 1 x))) [] [] (kp 1 x)] x.pos
  | .len a, x => .Call (.Name (Str.ofString "len") (kp 0 x)) [rb a (kid 1 x)] [] x.pos
  | .ord a, x => .Call (.Name (Str.ofString "ord") (kp 0 x)) [rb a (kid 1 x)] [] x.pos
  | .min a b, x => .Call (.Name (Str.ofString "min") (kp 0 x)) [rb a (kid 1 x), rb b (kid 2 x)] [] x.pos
  | .max a b, x => .Call (.Name (Str.ofString "max") (kp 0 x)) [rb a (kid 1 x), rb b (kid 2 x)] [] x.pos
  | .idx a b, x => .Subscript (rb a (kid 0 x)) (rb b (kid 1 x)) x.pos
  | .slc a b c, x => .Subscript (rb a (kid 0 x)) (.Slice (some (rb b (kid 0 (kid 1 x)))) (some (rb c (kid 1 (kid 1 x)))) none (kp 1 x)) x.pos
  | .slcFrom a b, x => .Subscript (rb a (kid 0 x)) (.Slice (some (rb b (kid 0 (kid 1 x)))) none none (kp 1 x)) x.pos
  | .slcTo a c, x => .Subscript (rb a (kid 0 x)) (.Slice none (some (rb c (kid 1 (kid 1 x)))) none (kp 1 x)) x.pos
  | .endsw a b, x => .Call (.Attribute (rb a (kid 0 (kid 0 x))) (Str.ofString "endswith") (kp 0 x)) [rb b (kid 1 x)] [] x.pos
  | .amf n f, x => .Attribute (.Name (nm n) (kp 0 x)) (nm f) x.pos
  | .call0 m, x => .Call (.Attribute (.Name (nm .self) (kp 0 (kid 0 x))) (nm m) (kp 0 x)) [] [] x.pos
  | .call1 m a, x => .Call (.Attribute (.Name (nm .self) (kp 0 (kid 0 x))) (nm m) (kp 0 x)) [rb a (kid 1 x)] [] x.pos
  | .call3 m a b c, x => .Call (.Attribute (.Name (nm .self) (kp 0 (kid 0 x))) (nm m) (kp 0 x)) [rb a (kid 1 x), rb b (kid 2 x), rb c (kid 3 x)] [] x.pos
  | .fn1 f a, x => .Call (.Name (nm f) (kp 0 x)) [rb a (kid 1 x)] [] x.pos
  | .fn2 f a b, x => .Call (.Name (nm f) (kp 0 x)) [rb a (kid 1 x), rb b (kid 2 x)] [] x.pos
  | .not a, x => .UnaryOp .Not (rb a (kid 0 x)) x.pos
  | .or a b, x => .BoolOp .Or [rb a (kid 0 x), rb b (kid 1 x)] x.pos
  | .and a b, x => .BoolOp .And [rb a (kid 0 x), rb b (kid 1 x)] x.pos
  | .and3 a b c, x => .BoolOp .And [rb a (kid 0 x), rb b (kid 1 x), rb c (kid 2 x)] x.pos
noncomputable def lk (sc : Scope) (n : Nm) : Bool := decide (sc.names.lookup (nm n) = some .local)
noncomputable def gk (sc : Scope) (n : Nm) : Bool := decide (sc.names.lookup (nm n) = some .globalImplicit)
noncomputable def gs (sc : Scope) (x : String) : Bool := decide (sc.names.lookup (Str.ofString x) = some .globalImplicit)
/-- does it fit: the names' kinds, the lines -/
noncomputable def ok (sc : Scope) : ME → Expr → Bool
  | .none, _ => true | .bool _, _ => true | .int _, _ => true | .neg1, _ => true
  | .str l, _ => decide (l.length ≤ 1000)
  | .loc n, _ => lk sc n
  | .fld n, _ => lk sc .self && isFld n
  | .clsv _, _ => gs sc "DanishStemmer"
  | .glob n, _ => gk sc n
  | .add a b, x => ok sc a (kid 0 x) && ok sc b (kid 1 x)
  | .sub a b, x => ok sc a (kid 0 x) && ok sc b (kid 1 x)
  | .shr1 a, x => ok sc a (kid 0 x)
  | .cmp op a b, x => ok sc a (kid 0 x) && (ok sc b (kid 1 x) && !behindInMarks op (rb b (kid 1 x)))
  | .inFn a f, x => ok sc a (kid 0 x) && gk sc f
  | .len a, x => gs sc "len" && ok sc a (kid 1 x)
  | .ord a, x => gs sc "ord" && ok sc a (kid 1 x)
  | .min a b, x => gs sc "min" && (ok sc a (kid 1 x) && ok sc b (kid 2 x))
  | .max a b, x => gs sc "max" && (ok sc a (kid 1 x) && ok sc b (kid 2 x))
  | .idx a b, x => ok sc a (kid 0 x) && ok sc b (kid 1 x)
  | .slc a b c, x => ok sc a (kid 0 x) && (ok sc b (kid 0 (kid 1 x)) && ok sc c (kid 1 (kid 1 x)))
  | .slcFrom a b, x => ok sc a (kid 0 x) && ok sc b (kid 0 (kid 1 x))
  | .slcTo a c, x => ok sc a (kid 0 x) && ok sc c (kid 1 (kid 1 x))
  | .endsw a b, x => ok sc a (kid 0 (kid 0 x)) && (ok sc b (kid 1 x) && (kp 0 x).endLine == x.pos.line)
  | .amf n _, _ => lk sc n
  | .call0 m, x => lk sc .self && (isMeth m && (kp 0 x).endLine == x.pos.line)
  | .call1 m a, x => lk sc .self && (isMeth m && ((kp 0 x).endLine == x.pos.line && ok sc a (kid 1 x)))
  | .call3 m a b c, x => lk sc .self && (isMeth m && ((kp 0 x).endLine == x.pos.line && (ok sc a (kid 1 x) && (ok sc b (kid 2 x) && ok sc c (kid 3 x)))))
  | .fn1 f a, x => gk sc f && (isDefN f && ok sc a (kid 1 x))
  | .fn2 f a b, x => gk sc f && (isDefN f && (ok sc a (kid 1 x) && ok sc b (kid 2 x)))
  | .not a, x => ok sc a (kid 0 x)
  | .or a b, x => ok sc a (kid 0 x) && ok sc b (kid 1 x)
  | .and a b, x => ok sc a (kid 0 x) && ok sc b (kid 1 x)
  | .and3 a b c, x => ok sc a (kid 0 x) && (ok sc b (kid 1 x) && ok sc c (kid 2 x))
noncomputable def kidsS : Stmt → List Expr
  | .Assign t v _ => t ++ [v] | .AugAssign t _ v _ => [t, v] | .If x _ _ _ => [x] | .While x _ _ _ => [x] | .For t i _ _ _ => [t, i] | .Return (some v) _ => [v] | .Expr v _ => [v] | .Assert v _ _ => [v]
  | .Raise (some e) _ _ => [e] | .Try _ [.ExceptHandler (some e) _ _ _] _ _ _ => [e] | _ => []
noncomputable def ke (i : Nat) (s : Stmt) : Expr := (kidsS s).getD i dE
noncomputable def bodsS : Stmt → List (List Stmt)
  | .If _ a b _ => [a, b] | .While _ a _ _ => [a] | .For _ _ a _ _ => [a] | .Try a [.ExceptHandler _ _ b _] _ _ _ => [a, b] | _ => []
noncomputable def kb (i : Nat) (s : Stmt) : List Stmt := (bodsS s).getD i []
noncomputable def hposS : Stmt → Pos
  | .Try _ [.ExceptHandler _ _ _ p] _ _ _ => p | _ => default
noncomputable def dS : Stmt := .Pass default
mutual
noncomputable def rb1 : M1 → Stmt → Stmt
  | .asgL n e, s => .Assign [.Name (nm n) (ke 0 s).pos] (rb e (ke 1 s)) s.pos
  | .asgF n e, s => .Assign [.Attribute (.Name (nm .self) (kp 0 (ke 0 s))) (nm n) (ke 0 s).pos] (rb e (ke 1 s)) s.pos
  | .addL n e, s => .AugAssign (.Name (nm n) (ke 0 s).pos) .Add (rb e (ke 1 s)) s.pos
  | .addF n e, s => .AugAssign (.Attribute (.Name (nm .self) (kp 0 (ke 0 s))) (nm n) (ke 0 s).pos) .Add (rb e (ke 1 s)) s.pos
  | .subF n e, s => .AugAssign (.Attribute (.Name (nm .self) (kp 0 (ke 0 s))) (nm n) (ke 0 s).pos) .Sub (rb e (ke 1 s)) s.pos
  | .ifs t a b, s => .If (rb t (ke 0 s)) (rbS a (kb 0 s)) (rbS b (kb 1 s)) s.pos
  | .whil t b, s => .While (rb t (ke 0 s)) (rbS b (kb 0 s)) [] s.pos
  | .forDown n e b, s => .For (.Name (nm n) (ke 0 s).pos) (.Call (.Name (Str.ofString "range") (kp 0 (ke 1 s))) [rb e (kid 1 (ke 1 s)), rb .neg1 (kid 2 (ke 1 s)), rb .neg1 (kid 3 (ke 1 s))] [] (ke 1 s).pos) (rbS b (kb 0 s)) [] s.pos
  | .forUp n e b, s => .For (.Name (nm n) (ke 0 s).pos) (.Call (.Name (Str.ofString "range") (kp 0 (ke 1 s))) [rb e (kid 1 (ke 1 s))] [] (ke 1 s).pos) (rbS b (kb 0 s)) [] s.pos
  | .forStrs n e b, s => .For (.Name (nm n) (ke 0 s).pos) (rb e (ke 1 s)) (rbS b (kb 0 s)) [] s.pos
  | .brk, s => .Break s.pos
  | .pass, s => .Pass s.pos
  | .ret e, s => .Return (some (rb e (ke 0 s))) s.pos
  | .expr e, s => .Expr (rb e (ke 0 s)) s.pos
  | .assert t, s => .Assert (rb t (ke 0 s)) none s.pos
  | .try_ b l, s => .Try (rbS b (kb 0 s)) [.ExceptHandler (some (.Name (nm l) (ke 0 s).pos)) none [.Pass ((kb 1 s).headD dS).pos] (hposS s)] [] [] s.pos
  | .raise_ l, s => .Raise (some (.Call (.Name (nm l) (kp 0 (ke 0 s))) [] [] (ke 0 s).pos)) none s.pos
noncomputable def rbS : MS → List Stmt → List Stmt
  | .nil, _ => []
  | .cons a r, l => rb1 a (l.headD dS) :: rbS r l.tail
end
mutual
noncomputable def ok1 (sc : Scope) : M1 → Stmt → Bool
  | .asgL n e, s => lk sc n && ok sc e (ke 1 s)
  | .asgF n e, s => lk sc .self && (isFld n && ok sc e (ke 1 s))
  | .addL n e, s => lk sc n && ok sc e (ke 1 s)
  | .addF n e, s => lk sc .self && (isFld n && ok sc e (ke 1 s))
  | .subF n e, s => lk sc .self && (isFld n && ok sc e (ke 1 s))
  | .ifs t a b, s => ok sc t (ke 0 s) && (okS sc a (kb 0 s) && okS sc b (kb 1 s))
  | .whil t b, s => ok sc t (ke 0 s) && okS sc b (kb 0 s)
  | .forDown n e b, s => lk sc n && (gs sc "range" && (ok sc e (kid 1 (ke 1 s)) && okS sc b (kb 0 s)))
  | .forUp n e b, s => lk sc n && (gs sc "range" && (ok sc e (kid 1 (ke 1 s)) && okS sc b (kb 0 s)))
  | .forStrs n e b, s => lk sc n && (ok sc e (ke 1 s) && okS sc b (kb 0 s))
  | .brk, _ => true | .pass, _ => true
  | .ret e, s => ok sc e (ke 0 s)
  | .expr e, s => ok sc e (ke 0 s)
  | .assert t, s => ok sc t (ke 0 s)
  | .try_ b l, s => okS sc b (kb 0 s) && (gk sc l && isLab l)
  | .raise_ l, _ => gk sc l && isLab l
noncomputable def okS (sc : Scope) : MS → List Stmt → Bool
  | .nil, _ => true
  | .cons a r, l => ok1 sc a (l.headD dS) && okS sc r l.tail
end
end

noncomputable abbrev Fl := Option (List (Nm × MV))
structure St where
  loc : List (Nm × MV)
  fld : Fl
noncomputable def getN (n : Nm) : List (Nm × MV) → Option MV
  | [] => .none
  | (k, v) :: r => if k = n then some v else getN n r
noncomputable def putN (n : Nm) (v : MV) : List (Nm × MV) → List (Nm × MV)
  | [] => [(n, v)]
  | (k, u) :: r => if k = n then (k, v) :: r else (k, u) :: putN n v r
theorem getN_putN (n k : Nm) (v : MV) : ∀ l, getN k (putN n v l) = if n = k then some v else getN k l
  | [] => by simp only [putN, getN]
  | (j, u) :: r => by
    simp only [putN]
    by_cases h : j = n
    · subst h
      simp only [if_true, getN]
      split <;> rfl
    · simp only [if_neg h, getN, getN_putN n k v r]
      by_cases hk : j = k
      · subst hk; simp [Ne.symm h]
      · simp [hk]
inductive Out where
  | next | brk | ret (v : MV) | exc (l : Nm)
end DaWalk
open PySem PySem.W PyProof.Rows DaHead
set_option Elab.async false
set_option linter.unusedVariables false
namespace DaWalk
noncomputable def blk : List M1 → MS
  | [] => .nil
  | a :: r => .cons a (blk r)
noncomputable abbrev fCur : ME := .fld .current
noncomputable abbrev fC : ME := .fld .cursor
noncomputable abbrev fL : ME := .fld .limit
noncomputable abbrev fLb : ME := .fld .limitBackward
noncomputable abbrev fB : ME := .fld .bra
noncomputable abbrev fK : ME := .fld .ket
noncomputable abbrev fP : ME := .fld .ip1
noncomputable def rF : M1 := .ret (.bool false)
noncomputable def rT : M1 := .ret (.bool true)
noncomputable def bInit : MS := blk [.expr (.call1 .setCurrent (.str []))]
noncomputable def bSetCurrent : MS := blk [.asgF .current (.loc .value), .asgF .cursor (.int 0), .asgF .limit (.len fCur), .asgF .limitBackward (.int 0), .asgF .bra fC, .asgF .ket fL]
noncomputable def bGetCurrent : MS := blk [.ret fCur]
noncomputable def bGoIn : MS := blk [.whil (.cmp .Lt fC fL) (blk [.ifs (.cmp .NotIn (.idx fCur fC) (.loc .s)) (blk [rT]) .nil, .addF .cursor (.int 1)]), rF]
noncomputable def bGoOut : MS := blk [.whil (.cmp .Lt fC fL) (blk [.ifs (.cmp .In (.idx fCur fC) (.loc .s)) (blk [rT]) .nil, .addF .cursor (.int 1)]), rF]
noncomputable def bInGroupingB : MS := blk [.ifs (.cmp .LtE fC fLb) (blk [rF]) .nil, .ifs (.cmp .NotIn (.idx fCur (.sub fC (.int 1))) (.loc .s)) (blk [rF]) .nil, .subF .cursor (.int 1), rT]
noncomputable def bEqSB : MS := blk [.ifs (.endsw (.slc fCur fLb fC) (.loc .s)) (blk [.subF .cursor (.len (.loc .s)), rT]) .nil, rF]
noncomputable def bFindInner : MS := blk [.ifs (.cmp .Eq (.sub (.loc .c) (.loc .common)) (.loc .lb)) (blk [.asgL .diff .neg1, .brk]) .nil,
  .asgL .diff (.sub (.ord (.idx fCur (.sub (.sub (.loc .c) (.int 1)) (.loc .common)))) (.ord (.idx (.amf .w .s) (.loc .i2)))),
  .ifs (.cmp .NotEq (.loc .diff) (.int 0)) (blk [.brk]) .nil, .addL .common (.int 1)]
noncomputable def bFindLoop : MS := blk [.asgL .k (.add (.loc .i) (.shr1 (.sub (.loc .j) (.loc .i)))), .asgL .diff (.int 0), .asgL .common (.min (.loc .commonI) (.loc .commonJ)), .asgL .w (.idx (.loc .v) (.loc .k)),
  .forDown .i2 (.sub (.sub (.len (.amf .w .s)) (.int 1)) (.loc .common)) bFindInner,
  .ifs (.cmp .Lt (.loc .diff) (.int 0)) (blk [.asgL .j (.loc .k), .asgL .commonJ (.loc .common)]) (blk [.asgL .i (.loc .k), .asgL .commonI (.loc .common)]),
  .ifs (.cmp .LtE (.sub (.loc .j) (.loc .i)) (.int 1)) (blk [.ifs (.cmp .Gt (.loc .i) (.int 0)) (blk [.brk]) .nil, .ifs (.cmp .Eq (.loc .j) (.loc .i)) (blk [.brk]) .nil, .ifs (.loc .fki) (blk [.brk]) .nil, .asgL .fki (.bool true)]) .nil]
noncomputable def bFindBack : MS := blk [.asgL .w (.idx (.loc .v) (.loc .i)), .ifs (.cmp .GtE (.loc .commonI) (.len (.amf .w .s))) (blk [.asgF .cursor (.sub (.loc .c) (.len (.amf .w .s))), .ret (.amf .w .result)]) .nil,
  .asgL .i (.amf .w .subI), .ifs (.cmp .Lt (.loc .i) (.int 0)) (blk [.ret (.int 0)]) .nil]
noncomputable def bFindAmongB : MS := blk [.asgL .i (.int 0), .asgL .j (.len (.loc .v)), .asgL .c fC, .asgL .lb fLb, .asgL .commonI (.int 0), .asgL .commonJ (.int 0), .asgL .fki (.bool false),
  .whil (.bool true) bFindLoop, .whil (.bool true) bFindBack, .ret .neg1]
noncomputable def bReplaceS : MS := blk [.asgL .adjustment (.sub (.len (.loc .s)) (.sub (.loc .cKet) (.loc .cBra))), .asgF .current (.add (.add (.slc fCur (.int 0) (.loc .cBra)) (.loc .s)) (.slcFrom fCur (.loc .cKet))),
  .addF .limit (.loc .adjustment), .ifs (.cmp .GtE fC (.loc .cKet)) (blk [.addF .cursor (.loc .adjustment)]) (blk [.ifs (.cmp .Gt fC (.loc .cBra)) (blk [.asgF .cursor (.loc .cBra)]) .nil]), .ret (.loc .adjustment)]
noncomputable def bChecks : List M1 := [.assert (.cmp .GtE fB (.int 0)), .assert (.cmp .LtE fB fK), .assert (.cmp .LtE fK fL), .assert (.cmp .LtE fL (.len fCur))]
noncomputable def bSliceFrom : MS := blk (bChecks ++ [.expr (.call3 .replaceS fB fK (.loc .s)), .asgF .ket (.add fB (.len (.loc .s)))])
noncomputable def bSliceDel : MS := blk [.ret (.call1 .sliceFrom (.str []))]
noncomputable def bSliceTo : MS := blk (bChecks ++ [.ret (.slc fCur fB fK)])
noncomputable def bStemWord : MS := blk [.expr (.call1 .setCurrent (.loc .word)), .expr (.call0 .stem_), .ret (.call0 .getCurrent)]
noncomputable def bRMark : MS := blk [.asgF .ip1 fL, .asgL .v1 fC,
  .try_ (blk [.whil (.bool true) (blk [.asgL .v2 fC,
      .try_ (blk [.whil (.bool true) (blk [.try_ (blk [.ifs (.or (.cmp .Eq fC fL) (.cmp .NotEq (.idx fCur fC) (.str [39]))) (blk [.raise_ .lab2]) .nil, .addF .cursor (.int 1), .brk]) .lab2,
          .ifs (.cmp .GtE fC fL) (blk [.raise_ .lab1]) .nil, .addF .cursor (.int 1)]), .brk]) .lab1,
      .asgF .cursor (.loc .v2), .ifs (.not (.call1 .goOut (.clsv .gV))) (blk [.raise_ .lab0]) .nil, .addF .cursor (.int 1), .ifs (.not (.call1 .goIn (.clsv .gV))) (blk [.raise_ .lab0]) .nil, .addF .cursor (.int 1), .brk]),
    .asgF .ip1 fC]) .lab0,
  .asgF .cursor (.loc .v1), .asgL .v3 fC, .ifs (.cmp .Gt (.add fC (.int 3)) fL) (blk [rF]) .nil, .addF .cursor (.int 3),
  .try_ (blk [.ifs (.cmp .GtE fP fC) (blk [.raise_ .lab0]) .nil, .asgF .ip1 fC]) .lab0, .asgF .cursor (.loc .v3), rT]
noncomputable def bRMain : MS := blk [.ifs (.cmp .Lt fC fP) (blk [rF]) .nil, .asgL .v2 fLb, .asgF .limitBackward fP, .asgF .ket fC, .asgL .amongVar (.call1 .findAmongB (.clsv .a0)),
  .ifs (.cmp .Eq (.loc .amongVar) (.int 0)) (blk [.asgF .limitBackward (.loc .v2), rF]) .nil, .asgF .bra fC, .asgF .limitBackward (.loc .v2),
  .ifs (.cmp .Eq (.loc .amongVar) (.int 1)) (blk [.expr (.call0 .sliceDel)]) (blk [.ifs (.not (.call1 .inGroupingB (.clsv .gS))) (blk [rF]) .nil, .expr (.call0 .sliceDel)]), rT]
noncomputable def bRPair : MS := blk [.asgL .v1 (.sub fL fC), .ifs (.cmp .Lt fC fP) (blk [rF]) .nil, .asgL .v3 fLb, .asgF .limitBackward fP, .asgF .ket fC,
  .ifs (.cmp .Eq (.call1 .findAmongB (.clsv .a1)) (.int 0)) (blk [.asgF .limitBackward (.loc .v3), rF]) .nil, .asgF .bra fC, .asgF .limitBackward (.loc .v3), .asgF .cursor (.sub fL (.loc .v1)),
  .ifs (.cmp .LtE fC fLb) (blk [rF]) .nil, .subF .cursor (.int 1), .asgF .bra fC, .expr (.call0 .sliceDel), rT]
noncomputable def bROther : MS := blk [.asgL .v1 (.sub fL fC),
  .try_ (blk [.asgF .ket fC, .ifs (.not (.call1 .eqSB (.str [115, 116]))) (blk [.raise_ .lab0]) .nil, .asgF .bra fC, .ifs (.not (.call1 .eqSB (.str [105, 103]))) (blk [.raise_ .lab0]) .nil, .expr (.call0 .sliceDel)]) .lab0,
  .asgF .cursor (.sub fL (.loc .v1)), .ifs (.cmp .Lt fC fP) (blk [rF]) .nil, .asgL .v3 fLb, .asgF .limitBackward fP, .asgF .ket fC, .asgL .amongVar (.call1 .findAmongB (.clsv .a2)),
  .ifs (.cmp .Eq (.loc .amongVar) (.int 0)) (blk [.asgF .limitBackward (.loc .v3), rF]) .nil, .asgF .bra fC, .asgF .limitBackward (.loc .v3),
  .ifs (.cmp .Eq (.loc .amongVar) (.int 1)) (blk [.expr (.call0 .sliceDel), .asgL .v4 (.sub fL fC), .expr (.call0 .rPair), .asgF .cursor (.sub fL (.loc .v4))]) (blk [.expr (.call1 .sliceFrom (.str [108, 248, 115]))]), rT]
noncomputable def bRUndouble : MS := blk [.ifs (.cmp .Lt fC fP) (blk [rF]) .nil, .asgL .v2 fLb, .asgF .limitBackward fP, .asgF .ket fC,
  .ifs (.not (.call1 .inGroupingB (.clsv .gUndouble))) (blk [.asgF .limitBackward (.loc .v2), rF]) .nil, .asgF .bra fC, .asgL .sCh (.call0 .sliceTo), .asgF .limitBackward (.loc .v2),
  .ifs (.not (.call1 .eqSB (.loc .sCh))) (blk [rF]) .nil, .expr (.call0 .sliceDel), rT]
noncomputable def bStem : MS := blk [.ifs (.not (.call0 .rMark)) (blk [rF]) .nil, .asgF .limitBackward fC, .asgF .cursor fL, .asgL .v1 (.sub fL fC), .expr (.call0 .rMain), .asgF .cursor (.sub fL (.loc .v1)), .asgL .v2 (.sub fL fC), .expr (.call0 .rPair), .asgF .cursor (.sub fL (.loc .v2)),
  .asgL .v3 (.sub fL fC), .expr (.call0 .rOther), .asgF .cursor (.sub fL (.loc .v3)), .asgL .v4 (.sub fL fC), .expr (.call0 .rUndouble), .asgF .cursor (.sub fL (.loc .v4)), .asgF .ket fC,
  .ifs (.or (.cmp .LtE fC fLb) (.cmp .NotEq (.idx fCur (.sub fC (.int 1))) (.str [39]))) (blk [rF]) .nil, .subF .cursor (.int 1), .asgF .bra fC, .expr (.call0 .sliceDel), .asgF .cursor fLb, rT]
noncomputable def bLRegion : MS := blk [.forUp .place (.len (.loc .word)) (blk [.ifs (.cmp .Eq (.idx (.loc .word) (.loc .place)) (.str [39])) (blk [.ret (.max (.int 3) (.add (.loc .place) (.int 1)))]) .nil]),
  .asgL .met (.bool false),
  .forUp .place (.len (.loc .word)) (blk [.ifs (.inFn (.idx (.loc .word) (.loc .place)) .lVowels) (blk [.asgL .met (.bool true)]) (blk [.ifs (.loc .met) (blk [.ret (.max (.int 3) (.add (.loc .place) (.int 1)))]) .nil])]),
  .ret (.len (.loc .word))]
noncomputable def bLEnd : MS := blk [.asgL .found (.str []), .forStrs .end_ (.loc .ends) (blk [.ifs (.and (.endsw (.loc .text) (.loc .end_)) (.cmp .Gt (.len (.loc .end_)) (.len (.loc .found)))) (blk [.asgL .found (.loc .end_)]) .nil]), .ret (.loc .found)]
noncomputable def bLPair : MS := blk [.ifs (.cmp .Eq (.fn2 .lEnd (.slcFrom (.loc .word) (.loc .first)) (.glob .lawPairs)) (.str [])) (blk [.ret (.loc .word)]) .nil, .ret (.slcTo (.loc .word) (.sub (.len (.loc .word)) (.int 1)))]
noncomputable def bLStem : MS := blk [.ifs (.cmp .Lt (.len (.loc .word)) (.int 3)) (blk [.ret (.loc .word)]) .nil, .asgL .first (.fn1 .lRegion (.loc .word)), .asgL .end_ (.fn2 .lEnd (.slcFrom (.loc .word) (.loc .first)) (.glob .lawMain)),
  .asgL .stem (.slcTo (.loc .word) (.sub (.len (.loc .word)) (.len (.loc .end_)))),
  .ifs (.or (.cmp .NotEq (.loc .end_) (.str [115])) (.inFn (.idx (.loc .stem) (.sub (.len (.loc .stem)) (.int 1))) .lBefore)) (blk [.asgL .word (.loc .stem)]) .nil,
  .asgL .word (.fn2 .lPair (.loc .word) (.loc .first)),
  .ifs (.endsw (.loc .word) (.str [105, 103, 115, 116])) (blk [.asgL .word (.slcTo (.loc .word) (.sub (.len (.loc .word)) (.int 2)))]) .nil,
  .asgL .end_ (.fn2 .lEnd (.slcFrom (.loc .word) (.loc .first)) (.glob .lawOther)),
  .ifs (.cmp .Eq (.loc .end_) (.str [108, 248, 115, 116])) (blk [.asgL .word (.slcTo (.loc .word) (.sub (.len (.loc .word)) (.int 1)))])
    (blk [.ifs (.cmp .NotEq (.loc .end_) (.str [])) (blk [.asgL .word (.fn2 .lPair (.slcTo (.loc .word) (.sub (.len (.loc .word)) (.len (.loc .end_)))) (.loc .first))]) .nil]),
  .asgL .last (.sub (.len (.loc .word)) (.int 1)),
  .ifs (.and3 (.cmp .GtE (.loc .last) (.loc .first)) (.inFn (.idx (.loc .word) (.loc .last)) .lDoubled) (.cmp .Eq (.idx (.loc .word) (.sub (.loc .last) (.int 1))) (.idx (.loc .word) (.loc .last)))) (blk [.asgL .word (.slcTo (.loc .word) (.loc .last))]) .nil,
  .ifs (.endsw (.loc .word) (.str [39])) (blk [.asgL .word (.slcTo (.loc .word) (.sub (.len (.loc .word)) (.int 1)))]) .nil,
  .ret (.loc .word)]
end DaWalk
open PySem PySem.W PyProof.Rows DaHead
set_option Elab.async false
set_option linter.unusedVariables false
set_option linter.constructorNameAsVariable false
namespace DaWalk
noncomputable abbrev Orc := Nm → List MV → Fl → Option (MV × Fl)
/-! what a value is -/
@[simp] noncomputable def asI : MV → Option Int
  | .int i => some i | .none => none | .bool _ => none | .str _ => none | .lstS _ => none | .sset _ => none | .ams _ => none | .am _ => none | .self => none
@[simp] noncomputable def asS : MV → Option (List Nat)
  | .str i => some i | .none => none | .bool _ => none | .int _ => none | .lstS _ => none | .sset _ => none | .ams _ => none | .am _ => none | .self => none
@[simp] noncomputable def asB : MV → Option Bool
  | .bool i => some i | .none => none | .str _ => none | .int _ => none | .lstS _ => none | .sset _ => none | .ams _ => none | .am _ => none | .self => none
@[simp] noncomputable def asA : MV → Option Am
  | .am i => some i | .none => none | .str _ => none | .int _ => none | .lstS _ => none | .sset _ => none | .ams _ => none | .bool _ => none | .self => none
@[simp] noncomputable def asL : MV → Option (List (List Nat))
  | .lstS i => some i | .none => none | .str _ => none | .int _ => none | .am _ => none | .sset _ => none | .ams _ => none | .bool _ => none | .self => none
@[simp] noncomputable def as1 : List Nat → Option Nat
  | [] => none | c :: r => if r.isEmpty then some c else none
noncomputable def addM : MV → MV → Option MV
  | .int a, b => (asI b).map fun b => .int (a + b)
  | .str a, b => (asS b).bind fun b => if a.length + b.length ≤ 1000 then some (.str (a ++ b)) else none
  | .none, _ => none | .bool _, _ => none | .lstS _, _ => none | .sset _, _ => none | .ams _, _ => none | .am _, _ => none | .self, _ => none
@[simp] noncomputable def addI (a b : MV) : Option MV := (asI a).bind fun a => (asI b).map fun b => .int (a + b)
noncomputable def subM (a b : MV) : Option MV := (asI a).bind fun a => (asI b).map fun b => .int (a - b)
noncomputable def shrM (a : MV) : Option MV := (asI a).bind fun a => if 0 ≤ a then some (.int (a / 2)) else none
noncomputable def lenM : MV → Option MV
  | .str a => some (.int a.length)
  | .lstS a => some (.int a.length)
  | .ams a => some (.int a.length)
  | .none => none | .bool _ => none | .int _ => none | .sset _ => none | .am _ => none | .self => none
noncomputable def ordM (a : MV) : Option MV := (asS a).bind fun l => (as1 l).map fun (c : Nat) => MV.int (c : Int)
noncomputable def minM (a b : MV) : Option MV := (asI a).bind fun a => (asI b).map fun b => .int (if b < a then b else a)
noncomputable def maxM (a b : MV) : Option MV := (asI a).bind fun a => (asI b).map fun b => .int (if b > a then b else a)
noncomputable def idxM (y : Bool) : MV → MV → Option MV
  | .str l, i => (asI i).bind fun i => if 0 ≤ i then (l[i.toNat]?).map fun c => .str [c] else none
  | .ams l, i => if y then (asI i).bind fun i => if 0 ≤ i then (l[i.toNat]?).map .am else none else none
  | .none, _ => none | .bool _, _ => none | .int _, _ => none | .lstS _, _ => none | .sset _, _ => none | .am _, _ => none | .self, _ => none
noncomputable def isLoc : ME → Bool
  | .loc _ => true
  | _ => false
noncomputable def slcM (a b c : MV) : Option MV := (asS a).bind fun l => (asI b).bind fun i => (asI c).bind fun j => if 0 ≤ i ∧ i ≤ j ∧ j ≤ l.length then some (.str ((l.drop i.toNat).take (j - i).toNat)) else none
noncomputable def slcFromM (a b : MV) : Option MV := (asS a).bind fun l => (asI b).bind fun i => if 0 ≤ i then some (.str (l.drop i.toNat)) else none
noncomputable def slcToM (a c : MV) : Option MV := (asS a).bind fun l => (asI c).bind fun j => if 0 ≤ j ∧ j ≤ l.length then some (.str (l.take j.toNat)) else none
noncomputable def endsM (a b : MV) : Option MV := (asS a).bind fun a => (asS b).map fun b => .bool (b.isSuffixOf a)
noncomputable def amfM (v : MV) (n : Nm) : Option MV := (asA v).bind fun a => if Nat.beq n.ctorIdx Nm.s.ctorIdx then some (.str a.s) else if Nat.beq n.ctorIdx Nm.subI.ctorIdx then some (.int a.sub) else if Nat.beq n.ctorIdx Nm.result.ctorIdx then some (.int a.res) else none
@[simp] theorem amfM_s (a : Am) : amfM (.am a) .s = some (.str a.s) := rfl
@[simp] theorem amfM_i (a : Am) : amfM (.am a) .subI = some (.int a.sub) := rfl
@[simp] theorem amfM_r (a : Am) : amfM (.am a) .result = some (.int a.res) := rfl
@[simp] noncomputable def cmpI : CmpOp → Int → Int → Option Bool
  | .Lt, a, b => some (decide (a < b))
  | .LtE, a, b => some (decide (a ≤ b))
  | .Gt, a, b => some (decide (a > b))
  | .GtE, a, b => some (decide (a ≥ b))
  | .Eq, a, b => some (a == b)
  | .NotEq, a, b => some (a != b)
  | .Is, _, _ => none | .IsNot, _, _ => none | .In, _, _ => none | .NotIn, _, _ => none
@[simp] noncomputable def cmpS : CmpOp → List Nat → List Nat → Option Bool
  | .Eq, a, b => some (a == b)
  | .NotEq, a, b => some (a != b)
  | .Lt, _, _ => none | .LtE, _, _ => none | .Gt, _, _ => none | .GtE, _, _ => none | .Is, _, _ => none | .IsNot, _, _ => none | .In, _, _ => none | .NotIn, _, _ => none
@[simp] noncomputable def cmpN : CmpOp → Nat → List Nat → Option Bool
  | .In, c, l => some (l.contains c)
  | .NotIn, c, l => some (!l.contains c)
  | .Eq, _, _ => none | .NotEq, _, _ => none | .Lt, _, _ => none | .LtE, _, _ => none | .Gt, _, _ => none | .GtE, _, _ => none | .Is, _, _ => none | .IsNot, _, _ => none
@[simp] noncomputable def cmpT (op : CmpOp) (a : List Nat) : MV → Option Bool
  | .str b => cmpS op a b
  | .sset l => (as1 a).bind fun c => cmpN op c l
  | .none => none | .bool _ => none | .int _ => none | .lstS _ => none | .ams _ => none | .am _ => none | .self => none
noncomputable def cmpM (op : CmpOp) : MV → MV → Option Bool
  | .int a, b => (asI b).bind fun b => cmpI op a b
  | .str a, b => cmpT op a b
  | .none, _ => none | .bool _, _ => none | .lstS _, _ => none | .sset _, _ => none | .ams _, _ => none | .am _, _ => none | .self, _ => none
@[simp] noncomputable def asBool (v : MV) : Option Bool := asB v
/-- the three lists that a def makes anew -/
noncomputable def lstL : List (List Nat) := [[97, 101, 105, 111, 117, 121, 230, 248, 229], [97, 98, 99, 100, 102, 103, 104, 106, 107, 108, 109, 110, 111, 112, 114, 116, 118, 121, 122, 229, 39], [98, 100, 102, 103, 107, 108, 109, 110, 112, 114, 115, 116]]
noncomputable def lstV (n : Nm) : Option (List Nat) := if rng .lVowels .lDoubled n then lstL[idxN .lVowels n]? else none
theorem lstV_v : lstV .lVowels = some [97, 101, 105, 111, 117, 121, 230, 248, 229] := rfl
theorem lstV_b : lstV .lBefore = some [97, 98, 99, 100, 102, 103, 104, 106, 107, 108, 109, 110, 111, 112, 114, 116, 118, 121, 122, 229, 39] := rfl
theorem lstV_d : lstV .lDoubled = some [98, 100, 102, 103, 107, 108, 109, 110, 112, 114, 115, 116] := rfl
noncomputable def inFnM (v : MV) (f : Nm) : Option Bool := (asS v).bind fun l => (as1 l).bind fun c => (lstV f).map fun l => l.contains c
/-- what the class and the top bear -/
structure Tab where
  cls : Nm → Option MV
  glb : Nm → Option MV
noncomputable def selfOk (σ : St) : Bool := getN .self σ.loc == some .self
noncomputable def getF (n : Nm) (σ : St) : Option MV := if selfOk σ then σ.fld.bind (getN n) else none
noncomputable def setL (n : Nm) (v : MV) (σ : St) : St := { σ with loc := putN n v σ.loc }
noncomputable def setF (n : Nm) (v : MV) (σ : St) : Option St := if selfOk σ then σ.fld.bind fun l => if l.length < 100 then some { σ with fld := some (putN n v l) } else none else none
noncomputable def methOk (m : Nm) (σ : St) : Bool := selfOk σ && match σ.fld with
  | some l => (getN m l).isNone
  | none => false
noncomputable def callM (O : Orc) (f : Nm) (args : List MV) (σ : St) : Option (MV × St) := (O f args σ.fld).map fun p => (p.1, { σ with fld := p.2 })
noncomputable def ev (T : Tab) (O : Orc) : ME → St → Option (MV × St)
  | .none, σ => some (.none, σ)
  | .bool b, σ => some (.bool b, σ)
  | .int i, σ => some (.int i, σ)
  | .str l, σ => some (.str l, σ)
  | .neg1, σ => some (.int (-1), σ)
  | .loc n, σ => (getN n σ.loc).map fun v => (v, σ)
  | .fld n, σ => (getF n σ).map fun v => (v, σ)
  | .clsv n, σ => (T.cls n).map fun v => (v, σ)
  | .glob n, σ => (T.glb n).map fun v => (v, σ)
  | .add a b, σ => (ev T O a σ).bind fun p => (ev T O b p.2).bind fun q => (addM p.1 q.1).map fun r => (r, q.2)
  | .sub a b, σ => (ev T O a σ).bind fun p => (ev T O b p.2).bind fun q => (subM p.1 q.1).map fun r => (r, q.2)
  | .shr1 a, σ => (ev T O a σ).bind fun p => (shrM p.1).map fun r => (r, p.2)
  | .len a, σ => (ev T O a σ).bind fun p => (lenM p.1).map fun r => (r, p.2)
  | .ord a, σ => (ev T O a σ).bind fun p => (ordM p.1).map fun r => (r, p.2)
  | .min a b, σ => (ev T O a σ).bind fun p => (ev T O b p.2).bind fun q => (minM p.1 q.1).map fun r => (r, q.2)
  | .max a b, σ => (ev T O a σ).bind fun p => (ev T O b p.2).bind fun q => (maxM p.1 q.1).map fun r => (r, q.2)
  | .idx a b, σ => (ev T O a σ).bind fun p => (ev T O b p.2).bind fun q => (idxM (isLoc a) p.1 q.1).map fun r => (r, q.2)
  | .slc a b c, σ => (ev T O a σ).bind fun p => (ev T O b p.2).bind fun q => (ev T O c q.2).bind fun u => (slcM p.1 q.1 u.1).map fun r => (r, u.2)
  | .slcFrom a b, σ => (ev T O a σ).bind fun p => (ev T O b p.2).bind fun q => (slcFromM p.1 q.1).map fun r => (r, q.2)
  | .slcTo a b, σ => (ev T O a σ).bind fun p => (ev T O b p.2).bind fun q => (slcToM p.1 q.1).map fun r => (r, q.2)
  | .endsw a b, σ => (ev T O a σ).bind fun p => (ev T O b p.2).bind fun q => (endsM p.1 q.1).map fun r => (r, q.2)
  | .amf n f, σ => ((getN n σ.loc).bind fun v => amfM v f).map fun r => (r, σ)
  | .call0 m, σ => if methOk m σ then callM O m [] σ else none
  | .call1 m a, σ => if methOk m σ then (ev T O a σ).bind fun p => if methOk m p.2 then callM O m [p.1] p.2 else none else none
  | .call3 m a b c, σ => if methOk m σ then (ev T O a σ).bind fun p => (ev T O b p.2).bind fun q => (ev T O c q.2).bind fun u => if methOk m u.2 then callM O m [p.1, q.1, u.1] u.2 else none else none
  | .fn1 f a, σ => (ev T O a σ).bind fun p => callM O f [p.1] p.2
  | .fn2 f a b, σ => (ev T O a σ).bind fun p => (ev T O b p.2).bind fun q => callM O f [p.1, q.1] q.2
  | .cmp _ _ _, _ => none | .inFn _ _, _ => none | .not _, _ => none | .or _ _, _ => none | .and _ _, _ => none | .and3 _ _ _, _ => none
theorem xv1 {T : Tab} {O : Orc} (σ : St) : ev T O (.none) σ = some (.none, σ) := rfl
theorem xv2 {T : Tab} {O : Orc} (b : Bool) (σ : St) : ev T O (.bool b) σ = some (.bool b, σ) := rfl
theorem xv3 {T : Tab} {O : Orc} (i : Int) (σ : St) : ev T O (.int i) σ = some (.int i, σ) := rfl
theorem xv4 {T : Tab} {O : Orc} (l : List Nat) (σ : St) : ev T O (.str l) σ = some (.str l, σ) := rfl
theorem xv5 {T : Tab} {O : Orc} (σ : St) : ev T O (.neg1) σ = some (.int (-1), σ) := rfl
theorem xv6 {T : Tab} {O : Orc} (n : Nm) (σ : St) : ev T O (.loc n) σ = (getN n σ.loc).map fun v => (v, σ) := rfl
theorem xv7 {T : Tab} {O : Orc} (n : Nm) (σ : St) : ev T O (.fld n) σ = (getF n σ).map fun v => (v, σ) := rfl
theorem xv8 {T : Tab} {O : Orc} (n : Nm) (σ : St) : ev T O (.clsv n) σ = (T.cls n).map fun v => (v, σ) := rfl
theorem xv9 {T : Tab} {O : Orc} (n : Nm) (σ : St) : ev T O (.glob n) σ = (T.glb n).map fun v => (v, σ) := rfl
theorem xv10 {T : Tab} {O : Orc} (a : ME) (b : ME) (σ : St) : ev T O (.add a b) σ = (ev T O a σ).bind fun p => (ev T O b p.2).bind fun q => (addM p.1 q.1).map fun r => (r, q.2) := rfl
theorem xv11 {T : Tab} {O : Orc} (a : ME) (b : ME) (σ : St) : ev T O (.sub a b) σ = (ev T O a σ).bind fun p => (ev T O b p.2).bind fun q => (subM p.1 q.1).map fun r => (r, q.2) := rfl
theorem xv12 {T : Tab} {O : Orc} (a : ME) (σ : St) : ev T O (.shr1 a) σ = (ev T O a σ).bind fun p => (shrM p.1).map fun r => (r, p.2) := rfl
theorem xv13 {T : Tab} {O : Orc} (a : ME) (σ : St) : ev T O (.len a) σ = (ev T O a σ).bind fun p => (lenM p.1).map fun r => (r, p.2) := rfl
theorem xv14 {T : Tab} {O : Orc} (a : ME) (σ : St) : ev T O (.ord a) σ = (ev T O a σ).bind fun p => (ordM p.1).map fun r => (r, p.2) := rfl
theorem xv15 {T : Tab} {O : Orc} (a : ME) (b : ME) (σ : St) : ev T O (.min a b) σ = (ev T O a σ).bind fun p => (ev T O b p.2).bind fun q => (minM p.1 q.1).map fun r => (r, q.2) := rfl
theorem xv16 {T : Tab} {O : Orc} (a : ME) (b : ME) (σ : St) : ev T O (.max a b) σ = (ev T O a σ).bind fun p => (ev T O b p.2).bind fun q => (maxM p.1 q.1).map fun r => (r, q.2) := rfl
theorem xv17 {T : Tab} {O : Orc} (a : ME) (b : ME) (σ : St) : ev T O (.idx a b) σ = (ev T O a σ).bind fun p => (ev T O b p.2).bind fun q => (idxM (isLoc a) p.1 q.1).map fun r => (r, q.2) := rfl
theorem xv18 {T : Tab} {O : Orc} (a : ME) (b : ME) (c : ME) (σ : St) : ev T O (.slc a b c) σ = (ev T O a σ).bind fun p => (ev T O b p.2).bind fun q => (ev T O c q.2).bind fun u => (slcM p.1 q.1 u.1).map fun r => (r, u.2) := rfl
theorem xv19 {T : Tab} {O : Orc} (a : ME) (b : ME) (σ : St) : ev T O (.slcFrom a b) σ = (ev T O a σ).bind fun p => (ev T O b p.2).bind fun q => (slcFromM p.1 q.1).map fun r => (r, q.2) := rfl
theorem xv20 {T : Tab} {O : Orc} (a : ME) (b : ME) (σ : St) : ev T O (.slcTo a b) σ = (ev T O a σ).bind fun p => (ev T O b p.2).bind fun q => (slcToM p.1 q.1).map fun r => (r, q.2) := rfl
theorem xv21 {T : Tab} {O : Orc} (a : ME) (b : ME) (σ : St) : ev T O (.endsw a b) σ = (ev T O a σ).bind fun p => (ev T O b p.2).bind fun q => (endsM p.1 q.1).map fun r => (r, q.2) := rfl
theorem xv22 {T : Tab} {O : Orc} (n : Nm) (f : Nm) (σ : St) : ev T O (.amf n f) σ = ((getN n σ.loc).bind fun v => amfM v f).map fun r => (r, σ) := rfl
theorem xv23 {T : Tab} {O : Orc} (m : Nm) (σ : St) : ev T O (.call0 m) σ = if methOk m σ then callM O m [] σ else none := rfl
theorem xv24 {T : Tab} {O : Orc} (m : Nm) (a : ME) (σ : St) : ev T O (.call1 m a) σ = if methOk m σ then (ev T O a σ).bind fun p => if methOk m p.2 then callM O m [p.1] p.2 else none else none := rfl
theorem xv25 {T : Tab} {O : Orc} (m : Nm) (a : ME) (b : ME) (c : ME) (σ : St) : ev T O (.call3 m a b c) σ = if methOk m σ then (ev T O a σ).bind fun p => (ev T O b p.2).bind fun q => (ev T O c q.2).bind fun u => if methOk m u.2 then callM O m [p.1, q.1, u.1] u.2 else none else none := rfl
theorem xv26 {T : Tab} {O : Orc} (f : Nm) (a : ME) (σ : St) : ev T O (.fn1 f a) σ = (ev T O a σ).bind fun p => callM O f [p.1] p.2 := rfl
theorem xv27 {T : Tab} {O : Orc} (f : Nm) (a : ME) (b : ME) (σ : St) : ev T O (.fn2 f a b) σ = (ev T O a σ).bind fun p => (ev T O b p.2).bind fun q => callM O f [p.1, q.1] q.2 := rfl
/-- the test of a plain expression -/
@[simp] noncomputable def evP (T : Tab) (O : Orc) (e : ME) (σ : St) : Option (Bool × St) := (ev T O e σ).bind fun p => (asBool p.1).map fun r => (r, p.2)
noncomputable def evT (T : Tab) (O : Orc) : ME → St → Option (Bool × St)
  | .not a, σ => (evT T O a σ).map fun p => (!p.1, p.2)
  | .or a b, σ => (evT T O a σ).bind fun p => if p.1 then some (true, p.2) else evT T O b p.2
  | .and a b, σ => (evT T O a σ).bind fun p => if p.1 then evT T O b p.2 else some (false, p.2)
  | .and3 a b c, σ => (evT T O a σ).bind fun p => if p.1 then (evT T O b p.2).bind fun q => if q.1 then evT T O c q.2 else some (false, q.2) else some (false, p.2)
  | .cmp op a b, σ => (ev T O a σ).bind fun p => (ev T O b p.2).bind fun q => (cmpM op p.1 q.1).map fun r => (r, q.2)
  | .inFn a f, σ => (ev T O a σ).bind fun p => (inFnM p.1 f).map fun r => (r, p.2)
  | .none, σ => evP T O (.none) σ
  | .bool b, σ => evP T O (.bool b) σ
  | .int i, σ => evP T O (.int i) σ
  | .str l, σ => evP T O (.str l) σ
  | .neg1, σ => evP T O (.neg1) σ
  | .loc n, σ => evP T O (.loc n) σ
  | .fld n, σ => evP T O (.fld n) σ
  | .clsv n, σ => evP T O (.clsv n) σ
  | .glob n, σ => evP T O (.glob n) σ
  | .add a b, σ => evP T O (.add a b) σ
  | .sub a b, σ => evP T O (.sub a b) σ
  | .shr1 a, σ => evP T O (.shr1 a) σ
  | .len a, σ => evP T O (.len a) σ
  | .ord a, σ => evP T O (.ord a) σ
  | .min a b, σ => evP T O (.min a b) σ
  | .max a b, σ => evP T O (.max a b) σ
  | .idx a b, σ => evP T O (.idx a b) σ
  | .slc a b c, σ => evP T O (.slc a b c) σ
  | .slcFrom a b, σ => evP T O (.slcFrom a b) σ
  | .slcTo a b, σ => evP T O (.slcTo a b) σ
  | .endsw a b, σ => evP T O (.endsw a b) σ
  | .amf n f, σ => evP T O (.amf n f) σ
  | .call0 m, σ => evP T O (.call0 m) σ
  | .call1 m a, σ => evP T O (.call1 m a) σ
  | .call3 m a b c, σ => evP T O (.call3 m a b c) σ
  | .fn1 f a, σ => evP T O (.fn1 f a) σ
  | .fn2 f a b, σ => evP T O (.fn2 f a b) σ
theorem xt1 {T : Tab} {O : Orc} (a : ME) (σ : St) : evT T O (.not a) σ = (evT T O a σ).map fun p => (!p.1, p.2) := rfl
theorem xt2 {T : Tab} {O : Orc} (a : ME) (b : ME) (σ : St) : evT T O (.or a b) σ = (evT T O a σ).bind fun p => if p.1 then some (true, p.2) else evT T O b p.2 := rfl
theorem xt3 {T : Tab} {O : Orc} (a : ME) (b : ME) (σ : St) : evT T O (.and a b) σ = (evT T O a σ).bind fun p => if p.1 then evT T O b p.2 else some (false, p.2) := rfl
theorem xt4 {T : Tab} {O : Orc} (a : ME) (b : ME) (c : ME) (σ : St) : evT T O (.and3 a b c) σ = (evT T O a σ).bind fun p => if p.1 then (evT T O b p.2).bind fun q => if q.1 then evT T O c q.2 else some (false, q.2) else some (false, p.2) := rfl
theorem xt5 {T : Tab} {O : Orc} (op : CmpOp) (a : ME) (b : ME) (σ : St) : evT T O (.cmp op a b) σ = (ev T O a σ).bind fun p => (ev T O b p.2).bind fun q => (cmpM op p.1 q.1).map fun r => (r, q.2) := rfl
theorem xt6 {T : Tab} {O : Orc} (a : ME) (f : Nm) (σ : St) : evT T O (.inFn a f) σ = (ev T O a σ).bind fun p => (inFnM p.1 f).map fun r => (r, p.2) := rfl
theorem xt8 {T : Tab} {O : Orc} (b : Bool) (σ : St) : evT T O (.bool b) σ = evP T O (.bool b) σ := rfl
theorem xt12 {T : Tab} {O : Orc} (n : Nm) (σ : St) : evT T O (.loc n) σ = evP T O (.loc n) σ := rfl
theorem xt13 {T : Tab} {O : Orc} (n : Nm) (σ : St) : evT T O (.fld n) σ = evP T O (.fld n) σ := rfl
theorem xt14 {T : Tab} {O : Orc} (n : Nm) (σ : St) : evT T O (.clsv n) σ = evP T O (.clsv n) σ := rfl
theorem xt15 {T : Tab} {O : Orc} (n : Nm) (σ : St) : evT T O (.glob n) σ = evP T O (.glob n) σ := rfl
theorem xt23 {T : Tab} {O : Orc} (a : ME) (b : ME) (σ : St) : evT T O (.idx a b) σ = evP T O (.idx a b) σ := rfl
theorem xt27 {T : Tab} {O : Orc} (a : ME) (b : ME) (σ : St) : evT T O (.endsw a b) σ = evP T O (.endsw a b) σ := rfl
theorem xt28 {T : Tab} {O : Orc} (n : Nm) (f : Nm) (σ : St) : evT T O (.amf n f) σ = evP T O (.amf n f) σ := rfl
theorem xt29 {T : Tab} {O : Orc} (m : Nm) (σ : St) : evT T O (.call0 m) σ = evP T O (.call0 m) σ := rfl
theorem xt30 {T : Tab} {O : Orc} (m : Nm) (a : ME) (σ : St) : evT T O (.call1 m a) σ = evP T O (.call1 m a) σ := rfl
theorem xt31 {T : Tab} {O : Orc} (m : Nm) (a : ME) (b : ME) (c : ME) (σ : St) : evT T O (.call3 m a b c) σ = evP T O (.call3 m a b c) σ := rfl
theorem xt32 {T : Tab} {O : Orc} (f : Nm) (a : ME) (σ : St) : evT T O (.fn1 f a) σ = evP T O (.fn1 f a) σ := rfl
theorem xt33 {T : Tab} {O : Orc} (f : Nm) (a : ME) (b : ME) (σ : St) : evT T O (.fn2 f a b) σ = evP T O (.fn2 f a b) σ := rfl
noncomputable def loopW (t : St → Option (Bool × St)) (b : St → Option (Out × St)) : Nat → St → Option (Out × St)
  | 0, _ => none
  | k + 1, σ => (t σ).bind fun p => if p.1 then (b p.2).bind fun q => match q.1 with
      | .next => loopW t b k q.2
      | .brk => some (.next, q.2)
      | o => some (o, q.2)
    else some (.next, p.2)
/-- over the values that are left -/
noncomputable def loopV (n : Nm) (b : St → Option (Out × St)) : List MV → St → Option (Out × St)
  | [], σ => some (.next, σ)
  | v :: r, σ => (b (setL n v σ)).bind fun q => match q.1 with
      | .next => loopV n b r q.2
      | .brk => some (.next, q.2)
      | o => some (o, q.2)
noncomputable def downV : Nat → List MV
  | 0 => []
  | k + 1 => .int k :: downV k
noncomputable def upV : Nat → Nat → List MV
  | _, 0 => []
  | i, k + 1 => .int i :: upV (i + 1) k
/-- no loop takes more turns than this -/
noncomputable def turnsMax : Nat := 100
mutual
noncomputable def ex1 (T : Tab) (O : Orc) : M1 → St → Option (Out × St)
  | .asgL n e, σ => (ev T O e σ).map fun p => (.next, setL n p.1 p.2)
  | .asgF n e, σ => (ev T O e σ).bind fun p => (setF n p.1 p.2).map fun τ => (.next, τ)
  | .addL n e, σ => (getN n σ.loc).bind fun o => (ev T O e σ).bind fun p => (addI o p.1).map fun r => (.next, setL n r p.2)
  | .addF n e, σ => (getF n σ).bind fun o => (ev T O e σ).bind fun p => (addI o p.1).bind fun r => (setF n r p.2).map fun τ => (.next, τ)
  | .subF n e, σ => (getF n σ).bind fun o => (ev T O e σ).bind fun p => (subM o p.1).bind fun r => (setF n r p.2).map fun τ => (.next, τ)
  | .ifs t a b, σ => (evT T O t σ).bind fun p => if p.1 then exs T O a p.2 else exs T O b p.2
  | .whil t b, σ => loopW (evT T O t) (exs T O b) turnsMax σ
  | .forDown n e b, σ => (ev T O e σ).bind fun p => (asI p.1).bind fun a => if a < 1000 ∧ -1000 < a then loopV n (exs T O b) (downV (a + 1).toNat) p.2 else none
  | .forUp n e b, σ => (ev T O e σ).bind fun p => (asI p.1).bind fun a => if a < 1000 ∧ -1000 < a then loopV n (exs T O b) (upV 0 a.toNat) p.2 else none
  | .forStrs n e b, σ => (ev T O e σ).bind fun p => (asL p.1).bind fun l => loopV n (exs T O b) (l.map .str) p.2
  | .brk, σ => some (.brk, σ)
  | .pass, σ => some (.next, σ)
  | .ret e, σ => (ev T O e σ).map fun p => (.ret p.1, p.2)
  | .expr e, σ => (ev T O e σ).map fun p => (.next, p.2)
  | .assert t, σ => (evT T O t σ).bind fun p => if p.1 then some (.next, p.2) else none
  | .try_ b l, σ => (exs T O b σ).bind fun q => match q.1 with
      | .exc k => if k = l then some (.next, q.2) else none
      | o => some (o, q.2)
  | .raise_ l, σ => some (.exc l, σ)
noncomputable def exs (T : Tab) (O : Orc) : MS → St → Option (Out × St)
  | .nil, σ => some (.next, σ)
  | .cons a r, σ => (ex1 T O a σ).bind fun q => match q.1 with
      | .next => exs T O r q.2
      | o => some (o, q.2)
end
theorem xs1 {T : Tab} {O : Orc} (n : Nm) (e : ME) (σ : St) : ex1 T O (.asgL n e) σ = (ev T O e σ).map fun p => (.next, setL n p.1 p.2) := rfl
theorem xs2 {T : Tab} {O : Orc} (n : Nm) (e : ME) (σ : St) : ex1 T O (.asgF n e) σ = (ev T O e σ).bind fun p => (setF n p.1 p.2).map fun τ => (.next, τ) := rfl
theorem xs3 {T : Tab} {O : Orc} (n : Nm) (e : ME) (σ : St) : ex1 T O (.addL n e) σ = (getN n σ.loc).bind fun o => (ev T O e σ).bind fun p => (addI o p.1).map fun r => (.next, setL n r p.2) := rfl
theorem xs4 {T : Tab} {O : Orc} (n : Nm) (e : ME) (σ : St) : ex1 T O (.addF n e) σ = (getF n σ).bind fun o => (ev T O e σ).bind fun p => (addI o p.1).bind fun r => (setF n r p.2).map fun τ => (.next, τ) := rfl
theorem xs5 {T : Tab} {O : Orc} (n : Nm) (e : ME) (σ : St) : ex1 T O (.subF n e) σ = (getF n σ).bind fun o => (ev T O e σ).bind fun p => (subM o p.1).bind fun r => (setF n r p.2).map fun τ => (.next, τ) := rfl
theorem xs6 {T : Tab} {O : Orc} (t : ME) (a : MS) (b : MS) (σ : St) : ex1 T O (.ifs t a b) σ = (evT T O t σ).bind fun p => if p.1 then exs T O a p.2 else exs T O b p.2 := rfl
theorem xs7 {T : Tab} {O : Orc} (t : ME) (b : MS) (σ : St) : ex1 T O (.whil t b) σ = loopW (evT T O t) (exs T O b) turnsMax σ := rfl
theorem xs8 {T : Tab} {O : Orc} (n : Nm) (e : ME) (b : MS) (σ : St) : ex1 T O (.forDown n e b) σ = (ev T O e σ).bind fun p => (asI p.1).bind fun a => if a < 1000 ∧ -1000 < a then loopV n (exs T O b) (downV (a + 1).toNat) p.2 else none := rfl
theorem xs9 {T : Tab} {O : Orc} (n : Nm) (e : ME) (b : MS) (σ : St) : ex1 T O (.forUp n e b) σ = (ev T O e σ).bind fun p => (asI p.1).bind fun a => if a < 1000 ∧ -1000 < a then loopV n (exs T O b) (upV 0 a.toNat) p.2 else none := rfl
theorem xs10 {T : Tab} {O : Orc} (n : Nm) (e : ME) (b : MS) (σ : St) : ex1 T O (.forStrs n e b) σ = (ev T O e σ).bind fun p => (asL p.1).bind fun l => loopV n (exs T O b) (l.map .str) p.2 := rfl
theorem xs11 {T : Tab} {O : Orc} (σ : St) : ex1 T O (.brk) σ = some (.brk, σ) := rfl
theorem xs12 {T : Tab} {O : Orc} (σ : St) : ex1 T O (.pass) σ = some (.next, σ) := rfl
theorem xs13 {T : Tab} {O : Orc} (e : ME) (σ : St) : ex1 T O (.ret e) σ = (ev T O e σ).map fun p => (.ret p.1, p.2) := rfl
theorem xs14 {T : Tab} {O : Orc} (e : ME) (σ : St) : ex1 T O (.expr e) σ = (ev T O e σ).map fun p => (.next, p.2) := rfl
theorem xs15 {T : Tab} {O : Orc} (t : ME) (σ : St) : ex1 T O (.assert t) σ = (evT T O t σ).bind fun p => if p.1 then some (.next, p.2) else none := rfl
theorem xs16 {T : Tab} {O : Orc} (b : MS) (l : Nm) (σ : St) : ex1 T O (.try_ b l) σ = ((exs T O b σ).bind fun q => match q.1 with
        | .exc k => if k = l then some (.next, q.2) else none
        | o => some (o, q.2)) := rfl
theorem xs17 {T : Tab} {O : Orc} (l : Nm) (σ : St) : ex1 T O (.raise_ l) σ = some (.exc l, σ) := rfl
/-- is it a method, its parameters behind self, its body -/
noncomputable def tabL : List (Option (Bool × List Nm × MS)) := [some (true, [.value], bSetCurrent), some (true, [], bGetCurrent), some (true, [.s], bGoIn), some (true, [.s], bInGroupingB), some (true, [.s], bGoOut), some (true, [.s], bEqSB), some (true, [.v], bFindAmongB),
  some (true, [.cBra, .cKet, .s], bReplaceS), some (true, [.s], bSliceFrom), some (true, [], bSliceDel), some (true, [], bSliceTo), some (true, [.word], bStemWord), some (true, [], bRMark), some (true, [], bRMain), some (true, [], bRPair), some (true, [], bROther), some (true, [], bRUndouble), some (true, [], bStem),
  none, none, none, some (false, [.word], bLRegion), some (false, [.text, .ends], bLEnd), some (false, [.word, .first], bLPair), some (false, [.word], bLStem), none, none, none, some (true, [], bInit)]
noncomputable def tab (n : Nm) : Option (Bool × List Nm × MS) := if rng .setCurrent .init_ n then (tabL[idxN .setCurrent n]?).join else none
noncomputable def runM (T : Tab) (O : Orc) (meth : Bool) (ps : List Nm) (b : MS) (args : List MV) (fl : Fl) : Option (MV × Fl) :=
  if ps.length = args.length ∧ (!meth || fl.isSome) = true then
    (exs T O b ⟨if meth then (.self, .self) :: ps.zip args else ps.zip args, fl⟩).bind fun q => match q.1 with
      | .ret v => some (v, q.2.fld)
      | .next => some (.none, q.2.fld)
      | _ => none
  else none
noncomputable def orc (T : Tab) : Nat → Orc
  | 0 => fun _ _ _ => none
  | k + 1 => fun f args fl => (tab f).bind fun x => runM T (orc T k) x.1 x.2.1 x.2.2 args fl
end DaWalk
open PySem PySem.W PyProof.Rows DaHead
set_option Elab.async false
set_option linter.unusedVariables false
set_option linter.constructorNameAsVariable false
namespace DaWalk
noncomputable def lMain : List (List Nat) := [[101], [101, 110], [101, 110, 100, 101], [101, 110, 100, 101, 115], [101, 110, 101], [101, 110, 101, 115], [101, 110, 115], [101, 114], [101, 114, 101], [101, 114, 101, 100], [101, 114, 101, 100, 101], [101, 114, 101, 110], [101, 114, 101, 110, 100, 101], [101, 114, 101, 110, 100, 101, 115], [101, 114, 101, 110, 115], [101, 114, 101, 114], [101, 114, 101, 115], [101, 114, 101, 116], [101, 114, 101, 116, 115], [101, 114, 110, 101], [101, 114, 110, 101, 115], [101, 114, 115], [101, 115], [101, 116], [101, 116, 104, 101, 100], [101, 116, 115], [104, 101, 100], [104, 101, 100, 101, 110], [104, 101, 100, 101, 110, 115], [104, 101, 100, 101, 114], [104, 101, 100, 115], [115]]
noncomputable def lPairs : List (List Nat) := [[103, 100], [100, 116], [103, 116], [107, 116]]
noncomputable def lOther : List (List Nat) := [[101, 108, 105, 103], [101, 108, 115], [105, 103], [108, 105, 103], [108, 248, 115, 116]]
noncomputable def sUndouble : List Nat := [98, 100, 102, 103, 107, 108, 109, 110, 112, 114, 115, 116]
noncomputable def sV : List Nat := [97, 101, 105, 111, 117, 121, 229, 230, 248]
noncomputable def sEnding : List Nat := [39, 97, 98, 99, 100, 102, 103, 104, 106, 107, 108, 109, 110, 111, 112, 114, 116, 118, 121, 122, 229]
noncomputable def t0 : List Am := [⟨[104, 101, 100], -1, 1⟩, ⟨[101, 116, 104, 101, 100], 0, 1⟩, ⟨[101, 114, 101, 100], -1, 1⟩, ⟨[101], -1, 1⟩, ⟨[101, 114, 101, 100, 101], 3, 1⟩, ⟨[101, 110, 100, 101], 3, 1⟩, ⟨[101, 114, 101, 110, 100, 101], 5, 1⟩, ⟨[101, 110, 101], 3, 1⟩, ⟨[101, 114, 110, 101], 3, 1⟩, ⟨[101, 114, 101], 3, 1⟩, ⟨[101, 110], -1, 1⟩, ⟨[104, 101, 100, 101, 110], 10, 1⟩, ⟨[101, 114, 101, 110], 10, 1⟩, ⟨[101, 114], -1, 1⟩, ⟨[104, 101, 100, 101, 114], 13, 1⟩, ⟨[101, 114, 101, 114], 13, 1⟩, ⟨[115], -1, 2⟩, ⟨[104, 101, 100, 115], 16, 1⟩, ⟨[101, 115], 16, 1⟩, ⟨[101, 110, 100, 101, 115], 18, 1⟩, ⟨[101, 114, 101, 110, 100, 101, 115], 19, 1⟩, ⟨[101, 110, 101, 115], 18, 1⟩, ⟨[101, 114, 110, 101, 115], 18, 1⟩, ⟨[101, 114, 101, 115], 18, 1⟩, ⟨[101, 110, 115], 16, 1⟩, ⟨[104, 101, 100, 101, 110, 115], 24, 1⟩, ⟨[101, 114, 101, 110, 115], 24, 1⟩, ⟨[101, 114, 115], 16, 1⟩, ⟨[101, 116, 115], 16, 1⟩, ⟨[101, 114, 101, 116, 115], 28, 1⟩, ⟨[101, 116], -1, 1⟩, ⟨[101, 114, 101, 116], 30, 1⟩]
noncomputable def t1 : List Am := [⟨[103, 100], -1, -1⟩, ⟨[100, 116], -1, -1⟩, ⟨[103, 116], -1, -1⟩, ⟨[107, 116], -1, -1⟩]
noncomputable def t2 : List Am := [⟨[105, 103], -1, 1⟩, ⟨[108, 105, 103], 0, 1⟩, ⟨[101, 108, 105, 103], 1, 1⟩, ⟨[101, 108, 115], -1, 1⟩, ⟨[108, 248, 115, 116], -1, 2⟩]
noncomputable def clsL : List MV := [.sset sUndouble, .sset sV, .sset sEnding, .ams t0, .ams t1, .ams t2]
noncomputable def glbL : List MV := [.lstS lMain, .lstS lPairs, .lstS lOther]
noncomputable def tb : Tab where
  cls := fun n => if rng .gUndouble .a2 n then clsL[idxN .gUndouble n]? else none
  glb := fun n => if rng .lawMain .lawOther n then glbL[idxN .lawMain n]? else none
end DaWalk
open PySem PySem.W PyProof.Rows DaHead
set_option Elab.async false
set_option linter.unusedVariables false
set_option linter.constructorNameAsVariable false
set_option maxRecDepth 100000
namespace DaWalk
noncomputable def chrS (c : Nat) : Str := ⟨#[c]⟩
noncomputable def txS (l : List Nat) : Str := ⟨l.toArray⟩
/-- every entry stands under its own hash -/
noncomputable def HashedS (w : World) (x : SetP) : Prop := ∀ e ∈ x.es.toList, ∃ s tok, e = (hashOf w s, Value.str s tok)
theorem addP_hashed {w : World} {x : SetP} {s : Str} {tok : Tok} (b : HashedS w x) : HashedS w (addP (hashOf w s) (.str s tok) x) := by
  have m := layNew_mem x.t x.es (hashOf w s) (.str s tok)
  have go : ∀ (es : Array (Int × Value)) (n : Nat) (t : SetTable), List.Perm es.toList (layNew x.t x.es (hashOf w s) (.str s tok)).1.toList → HashedS w ⟨es, n, t⟩ := by
    intro es n t P e he
    rcases (m e).mp (P.mem_iff.mp he) with rfl | q
    · exact ⟨s, tok, rfl⟩
    · exact b e q
  unfold addP
  split
  · exact go _ _ _ (relayAll_ok (oneP (hashOf w s) (.str s tok) x).t (oneP (hashOf w s) (.str s tok) x).es (SetTable.grown (oneP (hashOf w s) (.str s tok) x).es.size)).2
  · exact go _ _ _ (.refl _)
theorem addAll_hashed {w : World} : ∀ (l : List (Str × Tok)) (x : SetP), HashedS w x → HashedS w (addAll w l x)
  | [], _, b => b
  | (y, tok) :: r, x, b => addAll_hashed r _ (addP_hashed b)
theorem fresh_bears (w : World) : Bears [] (fresh0 w) := ⟨by show SetTable.fits _ 0 = true; unfold fresh0 SetTable.fresh SetTable.fits; simp [SetTable.fill], rfl, fun e he => (nomatch he), fun s hs => nomatch hs⟩
theorem end_hashed (w : World) (l : List (Str × Tok)) : HashedS w (unledP (addAll w l (fresh0 w))) := addAll_hashed l _ fun e he => nomatch he
theorem end_bears (w : World) (l : List (Str × Tok)) : Bears (l.map (·.1)).reverse (unledP (addAll w l (fresh0 w))) := by
  have := unled_bears (addAll_bears (w := w) l [] _ (fresh_bears w))
  simpa using this
/-- what the three sets hold -/
noncomputable def SetIs (w : World) (l : List Nat) (X : SetP) : Prop := HashedS w X ∧ ∃ L : List Str, Bears L X ∧ L.length < 1000 ∧ ∀ c : Nat, chrS c ∈ L ↔ c ∈ l
theorem set_of {w : World} {h : Heap} {a : Addr} {l : List Nat} {X : SetP} (H : SetIs w l X) (e : h.get? a = some (setO X)) :
    ∃ S n, h.SetOf (strKind pw w) a S n ∧ ∀ c, S (chrS c) = l.contains c := by
  obtain ⟨hh, L, b, hz, hc⟩ := H
  refine ⟨fun k => decide (k ∈ L), X.es.size, ⟨setO X, X.es, X.n, X.t, e, ⟨rfl, rfl, rfl⟩, rfl, fun y hy => ?_, fun k => ?_, ?_, b.fits, rfl⟩, fun c => ?_⟩
  · obtain ⟨s, tok, rfl⟩ := hh y hy
    exact ⟨⟨s, by show Value.isStrOf s (.str s tok) = true; simp [Value.isStrOf], rfl⟩, rfl⟩
  · rw [decide_eq_true_eq]
    constructor
    · intro hk
      obtain ⟨y, hy, tok, e⟩ := b.whole k hk
      exact ⟨y, hy, by rw [e]; show Value.isStrOf k (.str k tok) = true; simp [Value.isStrOf]⟩
    · rintro ⟨y, hy, q⟩
      obtain ⟨s, tok, e, hs⟩ := b.sound y hy
      rw [e] at q
      have q' : Value.isStrOf k (.str s tok) = true := q
      obtain ⟨t, q''⟩ := Value.isStrOf_shape q'
      injection q'' with q1
      exact q1 ▸ hs
  · rw [b.size]; unfold scanBound; omega
  · show decide (chrS c ∈ L) = l.contains c
    rw [Bool.eq_iff_iff, decide_eq_true_eq, hc, List.contains_iff_mem]
theorem setIs_of {w : World} {l : List (Str × Tok)} {cs : List Nat} (e : l.map (·.1) = cs.map chrS) (hz : cs.length < 1000) : SetIs w cs (unledP (addAll w l (fresh0 w))) := by
  refine ⟨end_hashed w l, _, end_bears w l, by simp [e, hz], fun c => ?_⟩
  rw [List.mem_reverse, e, List.mem_map]
  constructor
  · rintro ⟨d, hd, q⟩
    have : d = c := by
      have := congrArg (fun s : Str => s.cps.toList) q
      simpa [chrS] using this
    exact this ▸ hd
  · intro h; exact ⟨c, h, rfl⟩
theorem set0_is (w : World) : SetIs w sUndouble (end0 w) := setIs_of (l := toks0) (by decide +kernel) (by decide)
theorem set1_is (w : World) : SetIs w sV (end1 w) := setIs_of (l := toks1) (by decide +kernel) (by decide)
theorem set2_is (w : World) : SetIs w sEnding (end2 w) := setIs_of (l := toks2) (by decide +kernel) (by decide)
end DaWalk
open PySem PySem.W PyProof.Rows DaHead
set_option Elab.async false
set_option linter.unusedVariables false
set_option linter.constructorNameAsVariable false
set_option maxRecDepth 100000
namespace DaWalk
/-! the class's facts -/
theorem k_set (P : Params) : findIn (KF P) (.ref 403) (Str.ofString "__setattr__") = some (some (.builtin "object.__setattr__")) := by kernel_rfl
theorem k_over (P : Params) : plainOver (KF P) 403 = true := by kernel_rfl
theorem k_dict (P : Params) : hasDictIn (KF P) 403 = true := by kernel_rfl
theorem k_dict2 (P : Params) : hasDictIn (KF P) 218 = true := by kernel_rfl
theorem k_taker (P : Params) (n : Nm) (h : isFld n = true) : takerIn (KF P) 403 (nm n) = some none := by
  cases n <;> first | exact absurd h (by decide) | kernel_rfl
theorem k_get (P : Params) (n : Nm) : plainGet (KF P) 403 (nm n) = true := all_nm (p := fun n => plainGet (KF P) 403 (nm n)) (by kernel_rfl) n
theorem k_get2 (P : Params) (n : Nm) : plainGet (KF P) 218 (nm n) = true := all_nm (p := fun n => plainGet (KF P) 218 (nm n)) (by kernel_rfl) n
noncomputable def attrOf (n : Nm) : Option Value := if Nat.beq n.ctorIdx Nm.ip1.ctorIdx then some (.int 0 560) else none
theorem k_attr (P : Params) (n : Nm) (h : isFld n = true) : findIn (KF P) (.ref 403) (nm n) = some (attrOf n) ∧ noGet (KF P) (attrOf n) = true := by
  cases n <;> first | exact absurd h (by decide) | exact ⟨by kernel_rfl, by kernel_rfl⟩
theorem k_attr2 (P : Params) (n : Nm) (h : (n == .s || n == .subI || n == .result) = true) : findIn (KF P) (.ref 218) (nm n) = some none ∧ noGet (KF P) none = true := by
  cases n <;> first | exact absurd h (by decide) | exact ⟨by kernel_rfl, by kernel_rfl⟩

/-! values -/
noncomputable def amEs (es : List DictEntry) (a : Am) : Prop :=
  (∃ t, getL (nm .s) es = some (some (.str (txS a.s) t))) ∧ (∃ t, getL (nm .subI) es = some (some (.int a.sub t))) ∧ (∃ t, getL (nm .result) es = some (some (.int a.res t))) ∧ a.s.length ≤ 1000
noncomputable def AmRep (w : World) (v : Value) (a : Am) : Prop := ∃ x d es n, v = .ref x ∧ (KF w.params).lookup x = some (instObj 218 d) ∧ (KF w.params).lookup d = some (dictOf es n) ∧ amEs es a
inductive AmsAre (w : World) : List Value → List Am → Prop
  | nil : AmsAre w [] []
  | cons {v a vs as} : AmRep w v a → AmsAre w vs as → AmsAre w (v :: vs) (a :: as)
noncomputable abbrev listObj (vs : List Value) : Obj := { cls := .type "list", data := .seq vs.toArray }
noncomputable def Rep (w : World) (me : Option (Addr × Addr)) (v : Value) : MV → Prop
  | .none => v = .none
  | .bool b => v = .bool b
  | .int i => ∃ t, v = .int i t
  | .str l => l.length ≤ 1000 ∧ ∃ t, v = .str (txS l) t
  | .lstS l => l.length ≤ 1000 ∧ (∀ x ∈ l, x.length ≤ 1000) ∧ ∃ a vs, v = .ref a ∧ (KF w.params).lookup a = some (listObj vs) ∧ StrsAre vs (l.map txS)
  | .sset l => ∃ a X, v = .ref a ∧ (KF w.params).lookup a = some (setO X) ∧ SetIs w l X
  | .ams l => l.length ≤ 1000 ∧ ∃ a vs, v = .ref a ∧ (KF w.params).lookup a = some (listObj vs) ∧ AmsAre w vs l
  | .am a => AmRep w v a
  | .self => ∃ x d, me = some (x, d) ∧ v = .ref x
theorem rep_handed {w : World} {me : Option (Addr × Addr)} {v : Value} {mv : MV} (h : Rep w me v mv) : handedIn v = true := by
  cases mv with
  | none => cases h; rfl
  | bool b => cases h; rfl
  | int i => obtain ⟨t, rfl⟩ := h; rfl
  | str l => obtain ⟨_, t, rfl⟩ := h; rfl
  | lstS l => obtain ⟨_, _, a, vs, rfl, _⟩ := h; rfl
  | sset l => obtain ⟨a, X, rfl, _⟩ := h; rfl
  | ams l => obtain ⟨_, a, vs, rfl, _⟩ := h; rfl
  | am a => obtain ⟨x, d, es, n, rfl, _⟩ := h; rfl
  | self => obtain ⟨x, d, _, rfl⟩ := h; rfl

/-! the stemmer's dict -/
noncomputable def FldOk (w : World) (me : Option (Addr × Addr)) : List DictEntry → List (Nm × MV) → Prop
  | [], [] => True
  | e :: es, p :: r => (∃ t, e.key = .str (nm p.1) t) ∧ Rep w me e.val p.2 ∧ FldOk w me es r
  | _, _ => False
section
variable {w : World} {me : Option (Addr × Addr)}
theorem isStr_nm (n k : Nm) (t : Tok) : (Value.str (nm k) t).isStr (nm n) = decide (k = n) := by
  show (nm k == nm n) = _
  by_cases h : k = n
  · subst h; simp
  · have : nm k ≠ nm n := fun q => h (nm_inj q)
    simp [h, this]
theorem fld_find : ∀ {es : List DictEntry} {l : List (Nm × MV)} {n : Nm} {v : MV}, FldOk w me es l → getN n l = some v → ∃ e, es.find? (·.key.isStr (nm n)) = some e ∧ Rep w me e.val v
  | [], [], _, _, _, h => by cases h
  | [], _ :: _, _, _, h, _ => h.elim
  | _ :: _, [], _, _, h, _ => h.elim
  | e :: es, (k, u) :: r, n, v, ⟨⟨t, hk⟩, hr, ho⟩, h => by
    simp only [getN] at h
    simp only [List.find?_cons, hk, isStr_nm]
    by_cases q : k = n
    · rw [if_pos q] at h; cases h
      simp [q]; exact hr
    · rw [if_neg q] at h
      simp only [q, decide_false]
      exact fld_find ho h
theorem fld_none : ∀ {es : List DictEntry} {l : List (Nm × MV)} {n : Nm}, FldOk w me es l → getN n l = none → es.find? (·.key.isStr (nm n)) = none
  | [], [], _, _, _ => rfl
  | [], _ :: _, _, h, _ => h.elim
  | _ :: _, [], _, h, _ => h.elim
  | e :: es, (k, u) :: r, n, ⟨⟨t, hk⟩, hr, ho⟩, h => by
    simp only [getN] at h
    simp only [List.find?_cons, hk, isStr_nm]
    by_cases q : k = n
    · rw [if_pos q] at h; cases h
    · rw [if_neg q] at h
      simp only [q, decide_false]
      exact fld_none ho h
theorem fld_ref : ∀ {es : List DictEntry} {l : List (Nm × MV)}, FldOk w me es l → es.any (·.refKey) = false
  | [], [], _ => rfl
  | [], _ :: _, h => h.elim
  | _ :: _, [], h => h.elim
  | e :: es, p :: r, ⟨⟨t, hk⟩, hr, ho⟩ => by
    simp only [List.any_cons, fld_ref ho, Bool.or_false]
    unfold DictEntry.refKey
    rw [hk]
theorem fld_len : ∀ {es : List DictEntry} {l : List (Nm × MV)}, FldOk w me es l → es.length = l.length
  | [], [], _ => rfl
  | [], _ :: _, h => h.elim
  | _ :: _, [], h => h.elim
  | e :: es, p :: r, ⟨_, _, ho⟩ => by simp [fld_len ho]
theorem fld_get {es : List DictEntry} {l : List (Nm × MV)} {n : Nm} {v : MV} (F : FldOk w me es l) (h : getN n l = some v) : ∃ x, getL (nm n) es = some (some x) ∧ Rep w me x v := by
  obtain ⟨e, he, hr⟩ := fld_find F h
  exact ⟨e.val, by unfold getL; rw [he], hr⟩
theorem fld_miss {es : List DictEntry} {l : List (Nm × MV)} {n : Nm} (F : FldOk w me es l) (h : getN n l = none) : getL (nm n) es = some none := by
  unfold getL; rw [fld_none F h, fld_ref F]; rfl
theorem fld_isSome {es : List DictEntry} {l : List (Nm × MV)} {n : Nm} (F : FldOk w me es l) : (getL (nm n) es).isSome = true := by
  cases h : getN n l with
  | none => rw [fld_miss F h]; rfl
  | some v => obtain ⟨x, hx, _⟩ := fld_get F h; rw [hx]; rfl
theorem fld_put (hsh : Int) (t : Tok) {x : Value} {n : Nm} {v : MV} (hr : Rep w me x v) : ∀ {es : List DictEntry} {l : List (Nm × MV)}, FldOk w me es l → FldOk w me (putL (nm n) hsh (.str (nm n) t) x es) (putN n v l)
  | [], [], _ => ⟨⟨t, rfl⟩, hr, trivial⟩
  | [], _ :: _, h => h.elim
  | _ :: _, [], h => h.elim
  | e :: es, (k, u) :: r, ⟨⟨t', hk⟩, hr', ho⟩ => by
    simp only [PySem.W.putL, DaWalk.putN, hk, isStr_nm]
    by_cases q : k = n
    · simp only [q, decide_true, if_true]
      exact ⟨⟨t', rfl⟩, hr, ho⟩
    · simp only [q, decide_false, if_false, Bool.false_eq_true]
      exact ⟨⟨t', hk⟩, hr', fld_put hsh t hr ho⟩
theorem putN_len (n : Nm) (v : MV) : ∀ l : List (Nm × MV), (DaWalk.putN n v l).length ≤ l.length + 1
  | [] => Nat.le_refl _
  | (k, u) :: r => by
    simp only [DaWalk.putN]
    split
    · simp
    · have := putN_len n v r; simp only [List.length_cons]; omega
end

/-! the state -/
noncomputable def selfL : Option (Addr × Addr) → List DictEntry → Nat → List (Addr × Obj)
  | some (x, d), es, n => [(d, dictOf es n), (x, instObj 403 d)]
  | none, _, _ => []
noncomputable def FlOk (w : World) (me : Option (Addr × Addr)) (es : List DictEntry) : Fl → Prop
  | some l => me.isSome = true ∧ FldOk w me es l
  | none => me = none
noncomputable def Hp (w : World) (hb : Heap) (me : Option (Addr × Addr)) (L : Addr) (frs₀ kp : List (Addr × Obj)) (m : Str → Option Value) (fl : Fl) (h : Heap) : Prop :=
  ∃ es n frs, Fr hb L h m ∧ News hb L h (selfL me es n ++ (kp ++ frs)) ∧ TI.SameUp frs₀ frs ∧ FlOk w me es fl
noncomputable def LocOk (w : World) (me : Option (Addr × Addr)) (m : Str → Option Value) (loc : List (Nm × MV)) : Prop := ∀ n v, getN n loc = some v → ∃ x, m (nm n) = some x ∧ Rep w me x v
/-- apart from the stemmer's dict and from the outer frames -/
noncomputable def Apart (me : Option (Addr × Addr)) (frs₀ : List (Addr × Obj)) (p : Addr × Obj) : Prop := (∀ x d, me = some (x, d) → p.1 ≠ d) ∧ ∀ q ∈ frs₀, q.1 ≠ p.1
structure Side (me : Option (Addr × Addr)) (frs₀ kp : List (Addr × Obj)) : Prop where
  kpn : ∀ p ∈ kp, TI.notDict p = true ∨ Apart me frs₀ p
  dxf : ∀ x d, me = some (x, d) → ∀ p ∈ frs₀, p.1 ≠ d
section
variable {w : World} {me : Option (Addr × Addr)} {hb h : Heap} {L : Addr} {frs₀ kp : List (Addr × Obj)} {m : Str → Option Value} {fl : Fl} {loc : List (Nm × MV)}
theorem LocOk.put {n : Nm} {x : Value} {v : MV} (H : LocOk w me m loc) (hr : Rep w me x v) : LocOk w me (fun y => if y = nm n then some x else m y) (DaWalk.putN n v loc) := by
  intro k u hk
  rw [getN_putN] at hk
  by_cases q : n = k
  · subst q
    rw [if_pos rfl] at hk; cases hk
    exact ⟨x, if_pos rfl, hr⟩
  · rw [if_neg q] at hk
    obtain ⟨y, hy, hr'⟩ := H k u hk
    exact ⟨y, by show (if nm k = nm n then some x else m (nm k)) = some y; rw [if_neg (fun e => q (nm_inj e).symm)]; exact hy, hr'⟩
theorem Hp.keeps (X : (KF w.params).In hb) (H : Hp w hb me L frs₀ kp m fl h) : (KF w.params).In h := by obtain ⟨es, n, frs, F, _⟩ := H; exact X.keeps F.keep
theorem Hp.fr (H : Hp w hb me L frs₀ kp m fl h) : Fr hb L h m := by obtain ⟨es, n, frs, F, _⟩ := H; exact F
/-- a step that only made the heap greater -/
theorem Hp.step {h' : Heap} (H : Hp w hb me L frs₀ kp m fl h) (k : ∀ news, Fr hb L h m → News hb L h news → Fr hb L h' m ∧ News hb L h' news) : Hp w hb me L frs₀ kp m fl h' := by
  obtain ⟨es, n, frs, F, N, S, O⟩ := H
  obtain ⟨F', N'⟩ := k _ F N
  exact ⟨es, n, frs, F', N', S, O⟩
theorem Hp.inst {x d : Addr} (H : Hp w hb (some (x, d)) L frs₀ kp m fl h) : ∃ es n l, fl = some l ∧ InstAt h x (instObj 403 d) 403 (some (dictOf es n)) ∧ FldOk w (some (x, d)) es l := by
  obtain ⟨es, n, frs, F, N, S, O⟩ := H
  cases fl with
  | none => cases O
  | some l => exact ⟨es, n, l, rfl, InstAt.of_news N (List.Mem.tail _ (List.Mem.head _)) (List.Mem.head _), O.2⟩
theorem Hp.apart {x d : Addr} (Sd : Side (some (x, d)) frs₀ kp) {es : List DictEntry} {n : Nat} {frs : List (Addr × Obj)} (N : News hb L h (selfL (some (x, d)) es n ++ (kp ++ frs))) (S : TI.SameUp frs₀ frs) :
    ∀ p ∈ ((x, instObj 403 d) : Addr × Obj) :: (kp ++ frs), p.1 ≠ d := by
  have hd := (N (d, dictOf es n) (List.Mem.head _)).1
  intro p hp
  rcases List.mem_cons.mp hp with rfl | hp
  · intro q
    have q' : x = d := q
    have := (N (x, instObj 403 d) (List.Mem.tail _ (List.Mem.head _))).1
    simp only [q'] at this
    rw [hd] at this
    cases this
  · rcases List.mem_append.mp hp with hk | hf
    · intro q
      have h1 := (N p (List.mem_append_right _ (List.mem_append_left _ hk))).1
      rw [q, hd] at h1
      rcases Sd.kpn p hk with k | k
      · exact TI.notDict_ne k (by rw [← Option.some.inj h1])
      · exact k.1 x d rfl q
    · obtain ⟨y, hy, e⟩ := S.fwd p hf
      rw [e]
      exact Sd.dxf x d rfl y hy
end
end DaWalk
open PySem PySem.W PyProof.Rows DaHead
set_option Elab.async false
set_option linter.unusedVariables false
set_option linter.constructorNameAsVariable false
set_option maxRecDepth 100000
namespace DaWalk
noncomputable abbrev KL (sc : Scope) (x : Str) : Prop := sc.names.lookup x = some .local
noncomputable abbrev KG (sc : Scope) (x : Str) : Prop := sc.names.lookup x = some .globalImplicit
/-- the shape, told by rules -/
inductive Mat (sc : Scope) : ME → Expr → Prop
  | none {k p} : Mat sc .none (.Constant .none k p)
  | bool {b k p} : Mat sc (.bool b) (.Constant (.bool b) k p)
  | int {i k p} : Mat sc (.int i) (.Constant (.int i) k p)
  | str {l : List Nat} {k p} : l.length ≤ 1000 → Mat sc (.str l) (.Constant (.str (txS l)) k p)
  | neg1 {k p q} : Mat sc .neg1 (.UnaryOp .USub (.Constant (.int 1) k p) q)
  | loc {n p} : KL sc (nm n) → Mat sc (.loc n) (.Name (nm n) p)
  | fld {n p q} : KL sc (nm .self) → isFld n = true → Mat sc (.fld n) (.Attribute (.Name (nm .self) p) (nm n) q)
  | clsv {n p q} : KG sc (Str.ofString "DanishStemmer") → Mat sc (.clsv n) (.Attribute (.Name (Str.ofString "DanishStemmer") p) (nm n) q)
  | glob {n p} : KG sc (nm n) → Mat sc (.glob n) (.Name (nm n) p)
  | add {a b l r p} : Mat sc a l → Mat sc b r → Mat sc (.add a b) (.BinOp l .Add r p)
  | sub {a b l r p} : Mat sc a l → Mat sc b r → Mat sc (.sub a b) (.BinOp l .Sub r p)
  | shr1 {a l k q p} : Mat sc a l → Mat sc (.shr1 a) (.BinOp l .RShift (.Constant (.int 1) k q) p)
  | cmp {op a b l r p} : Mat sc a l → Mat sc b r → behindInMarks op r = false → Mat sc (.cmp op a b) (.Compare l [op] [r] p)
  | inFn {a f l q u p} : Mat sc a l → KG sc (nm f) → Mat sc (.inFn a f) (.Compare l [.In] [.Call (.Name (nm f) q) [] [] u] p)
  | len {a x p q} : KG sc (Str.ofString "len") → Mat sc a x → Mat sc (.len a) (.Call (.Name (Str.ofString "len") p) [x] [] q)
  | ord {a x p q} : KG sc (Str.ofString "ord") → Mat sc a x → Mat sc (.ord a) (.Call (.Name (Str.ofString "ord") p) [x] [] q)
  | min {a b x y p q} : KG sc (Str.ofString "min") → Mat sc a x → Mat sc b y → Mat sc (.min a b) (.Call (.Name (Str.ofString "min") p) [x, y] [] q)
  | max {a b x y p q} : KG sc (Str.ofString "max") → Mat sc a x → Mat sc b y → Mat sc (.max a b) (.Call (.Name (Str.ofString "max") p) [x, y] [] q)
  | idx {a b x y p} : Mat sc a x → Mat sc b y → Mat sc (.idx a b) (.Subscript x y p)
  | slc {a b c x y z p q} : Mat sc a x → Mat sc b y → Mat sc c z → Mat sc (.slc a b c) (.Subscript x (.Slice (some y) (some z) Option.none p) q)
  | slcFrom {a b x y p q} : Mat sc a x → Mat sc b y → Mat sc (.slcFrom a b) (.Subscript x (.Slice (some y) Option.none Option.none p) q)
  | slcTo {a b x y p q} : Mat sc a x → Mat sc b y → Mat sc (.slcTo a b) (.Subscript x (.Slice Option.none (some y) Option.none p) q)
  | endsw {a b x y} {ap p : Pos} : Mat sc a x → Mat sc b y → (ap.endLine == p.line) = true → Mat sc (.endsw a b) (.Call (.Attribute x (Str.ofString "endswith") ap) [y] [] p)
  | amf {n f p q} : KL sc (nm n) → Mat sc (.amf n f) (.Attribute (.Name (nm n) p) (nm f) q)
  | call0 {m p} {q u : Pos} : KL sc (nm .self) → isMeth m = true → (q.endLine == u.line) = true → Mat sc (.call0 m) (.Call (.Attribute (.Name (nm .self) p) (nm m) q) [] [] u)
  | call1 {m a y p} {q u : Pos} : KL sc (nm .self) → isMeth m = true → (q.endLine == u.line) = true → Mat sc a y → Mat sc (.call1 m a) (.Call (.Attribute (.Name (nm .self) p) (nm m) q) [y] [] u)
  | call3 {m a b c x y z p} {q u : Pos} : KL sc (nm .self) → isMeth m = true → (q.endLine == u.line) = true → Mat sc a x → Mat sc b y → Mat sc c z → Mat sc (.call3 m a b c) (.Call (.Attribute (.Name (nm .self) p) (nm m) q) [x, y, z] [] u)
  | fn1 {f a x p q} : KG sc (nm f) → isDefN f = true → Mat sc a x → Mat sc (.fn1 f a) (.Call (.Name (nm f) p) [x] [] q)
  | fn2 {f a b x y p q} : KG sc (nm f) → isDefN f = true → Mat sc a x → Mat sc b y → Mat sc (.fn2 f a b) (.Call (.Name (nm f) p) [x, y] [] q)
  | not {a x p} : Mat sc a x → Mat sc (.not a) (.UnaryOp .Not x p)
  | or {a b x y p} : Mat sc a x → Mat sc b y → Mat sc (.or a b) (.BoolOp .Or [x, y] p)
  | and {a b x y p} : Mat sc a x → Mat sc b y → Mat sc (.and a b) (.BoolOp .And [x, y] p)
  | and3 {a b c x y z p} : Mat sc a x → Mat sc b y → Mat sc c z → Mat sc (.and3 a b c) (.BoolOp .And [x, y, z] p)
theorem and_of {a b : Bool} (h : (a && b) = true) : a = true ∧ b = true := Bool.and_eq_true_iff.mp h
theorem lk_of {sc : Scope} {n : Nm} (h : lk sc n = true) : KL sc (nm n) := of_decide_eq_true h
theorem gk_of {sc : Scope} {n : Nm} (h : gk sc n = true) : KG sc (nm n) := of_decide_eq_true h
theorem gs_of {sc : Scope} {n : String} (h : gs sc n = true) : KG sc (Str.ofString n) := of_decide_eq_true h
theorem notT {b : Bool} (h : (!b) = true) : b = false := by cases b <;> first | rfl | cases h
theorem mat_rb {sc : Scope} : ∀ (e : ME) (x : Expr), ok sc e x = true → Mat sc e (rb e x)
  | .none, _, _ => .none
  | .bool _, _, _ => .bool
  | .int _, _, _ => .int
  | .neg1, _, _ => .neg1
  | .str _, _, h => .str (of_decide_eq_true h)
  | .loc _, _, h => .loc (lk_of h)
  | .fld _, _, h => .fld (lk_of (and_of h).1) (and_of h).2
  | .clsv _, _, h => .clsv (gs_of h)
  | .glob _, _, h => .glob (gk_of h)
  | .add a b, _, h => .add (mat_rb a _ (and_of h).1) (mat_rb b _ (and_of h).2)
  | .sub a b, _, h => .sub (mat_rb a _ (and_of h).1) (mat_rb b _ (and_of h).2)
  | .shr1 a, _, h => .shr1 (mat_rb a _ h)
  | .cmp _ a b, _, h => .cmp (mat_rb a _ (and_of h).1) (mat_rb b _ (and_of (and_of h).2).1) (notT (and_of (and_of h).2).2)
  | .inFn a _, _, h => .inFn (mat_rb a _ (and_of h).1) (gk_of (and_of h).2)
  | .len a, _, h => .len (gs_of (and_of h).1) (mat_rb a _ (and_of h).2)
  | .ord a, _, h => .ord (gs_of (and_of h).1) (mat_rb a _ (and_of h).2)
  | .min a b, _, h => .min (gs_of (and_of h).1) (mat_rb a _ (and_of (and_of h).2).1) (mat_rb b _ (and_of (and_of h).2).2)
  | .max a b, _, h => .max (gs_of (and_of h).1) (mat_rb a _ (and_of (and_of h).2).1) (mat_rb b _ (and_of (and_of h).2).2)
  | .idx a b, _, h => .idx (mat_rb a _ (and_of h).1) (mat_rb b _ (and_of h).2)
  | .slc a b c, _, h => .slc (mat_rb a _ (and_of h).1) (mat_rb b _ (and_of (and_of h).2).1) (mat_rb c _ (and_of (and_of h).2).2)
  | .slcFrom a b, _, h => .slcFrom (mat_rb a _ (and_of h).1) (mat_rb b _ (and_of h).2)
  | .slcTo a b, _, h => .slcTo (mat_rb a _ (and_of h).1) (mat_rb b _ (and_of h).2)
  | .endsw a b, _, h => .endsw (mat_rb a _ (and_of h).1) (mat_rb b _ (and_of (and_of h).2).1) (and_of (and_of h).2).2
  | .amf _ _, _, h => .amf (lk_of h)
  | .call0 _, _, h => .call0 (lk_of (and_of h).1) (and_of (and_of h).2).1 (and_of (and_of h).2).2
  | .call1 _ a, _, h => .call1 (lk_of (and_of h).1) (and_of (and_of h).2).1 (and_of (and_of (and_of h).2).2).1 (mat_rb a _ (and_of (and_of (and_of h).2).2).2)
  | .call3 _ a b c, _, h => .call3 (lk_of (and_of h).1) (and_of (and_of h).2).1 (and_of (and_of (and_of h).2).2).1 (mat_rb a _ (and_of (and_of (and_of (and_of h).2).2).2).1) (mat_rb b _ (and_of (and_of (and_of (and_of (and_of h).2).2).2).2).1) (mat_rb c _ (and_of (and_of (and_of (and_of (and_of h).2).2).2).2).2)
  | .fn1 _ a, _, h => .fn1 (gk_of (and_of h).1) (and_of (and_of h).2).1 (mat_rb a _ (and_of (and_of h).2).2)
  | .fn2 _ a b, _, h => .fn2 (gk_of (and_of h).1) (and_of (and_of h).2).1 (mat_rb a _ (and_of (and_of (and_of h).2).2).1) (mat_rb b _ (and_of (and_of (and_of h).2).2).2)
  | .not a, _, h => .not (mat_rb a _ h)
  | .or a b, _, h => .or (mat_rb a _ (and_of h).1) (mat_rb b _ (and_of h).2)
  | .and a b, _, h => .and (mat_rb a _ (and_of h).1) (mat_rb b _ (and_of h).2)
  | .and3 a b c, _, h => .and3 (mat_rb a _ (and_of h).1) (mat_rb b _ (and_of (and_of h).2).1) (mat_rb c _ (and_of (and_of h).2).2)
mutual
inductive Mat1 (sc : Scope) : M1 → Stmt → Prop
  | asgL {n e p v q} : KL sc (nm n) → Mat sc e v → Mat1 sc (.asgL n e) (.Assign [.Name (nm n) p] v q)
  | asgF {n e p r v q} : KL sc (nm .self) → isFld n = true → Mat sc e v → Mat1 sc (.asgF n e) (.Assign [.Attribute (.Name (nm .self) p) (nm n) r] v q)
  | addL {n e p v q} : KL sc (nm n) → Mat sc e v → Mat1 sc (.addL n e) (.AugAssign (.Name (nm n) p) .Add v q)
  | addF {n e p r v q} : KL sc (nm .self) → isFld n = true → Mat sc e v → Mat1 sc (.addF n e) (.AugAssign (.Attribute (.Name (nm .self) p) (nm n) r) .Add v q)
  | subF {n e p r v q} : KL sc (nm .self) → isFld n = true → Mat sc e v → Mat1 sc (.subF n e) (.AugAssign (.Attribute (.Name (nm .self) p) (nm n) r) .Sub v q)
  | ifs {t a b x y z p} : Mat sc t x → MatS sc a y → MatS sc b z → Mat1 sc (.ifs t a b) (.If x y z p)
  | whil {t b x y p} : Mat sc t x → MatS sc b y → Mat1 sc (.whil t b) (.While x y [] p)
  | forDown {n e b p q r k1 k2 k3 k4 k5 k6 u y pos} : KL sc (nm n) → KG sc (Str.ofString "range") → Mat sc e u → MatS sc b y →
      Mat1 sc (.forDown n e b) (.For (.Name (nm n) p) (.Call (.Name (Str.ofString "range") q) [u, .UnaryOp .USub (.Constant (.int 1) k1 k2) k3, .UnaryOp .USub (.Constant (.int 1) k4 k5) k6] [] r) y [] pos)
  | forUp {n e b p q r u y pos} : KL sc (nm n) → KG sc (Str.ofString "range") → Mat sc e u → MatS sc b y → Mat1 sc (.forUp n e b) (.For (.Name (nm n) p) (.Call (.Name (Str.ofString "range") q) [u] [] r) y [] pos)
  | forStrs {n e b p u y pos} : KL sc (nm n) → Mat sc e u → MatS sc b y → Mat1 sc (.forStrs n e b) (.For (.Name (nm n) p) u y [] pos)
  | brk {p} : Mat1 sc .brk (.Break p)
  | pass {p} : Mat1 sc .pass (.Pass p)
  | ret {e v p} : Mat sc e v → Mat1 sc (.ret e) (.Return (some v) p)
  | expr {e v p} : Mat sc e v → Mat1 sc (.expr e) (.Expr v p)
  | assert {t x p} : Mat sc t x → Mat1 sc (.assert t) (.Assert x none p)
  | try_ {b l x p q r pos} : MatS sc b x → KG sc (nm l) → isLab l = true → Mat1 sc (.try_ b l) (.Try x [.ExceptHandler (some (.Name (nm l) p)) none [.Pass q] r] [] [] pos)
  | raise_ {l p q r} : KG sc (nm l) → isLab l = true → Mat1 sc (.raise_ l) (.Raise (some (.Call (.Name (nm l) p) [] [] q)) none r)
inductive MatS (sc : Scope) : MS → List Stmt → Prop
  | nil : MatS sc .nil []
  | cons {a r s t} : Mat1 sc a s → MatS sc r t → MatS sc (.cons a r) (s :: t)
end
mutual
theorem mat1_rb {sc : Scope} : ∀ (x : M1) (s : Stmt), ok1 sc x s = true → Mat1 sc x (rb1 x s)
  | .asgL _ e, _, h => .asgL (lk_of (and_of h).1) (mat_rb e _ (and_of h).2)
  | .asgF _ e, _, h => .asgF (lk_of (and_of h).1) (and_of (and_of h).2).1 (mat_rb e _ (and_of (and_of h).2).2)
  | .addL _ e, _, h => .addL (lk_of (and_of h).1) (mat_rb e _ (and_of h).2)
  | .addF _ e, _, h => .addF (lk_of (and_of h).1) (and_of (and_of h).2).1 (mat_rb e _ (and_of (and_of h).2).2)
  | .subF _ e, _, h => .subF (lk_of (and_of h).1) (and_of (and_of h).2).1 (mat_rb e _ (and_of (and_of h).2).2)
  | .ifs t a b, _, h => .ifs (mat_rb t _ (and_of h).1) (matS_rb a _ (and_of (and_of h).2).1) (matS_rb b _ (and_of (and_of h).2).2)
  | .whil t b, _, h => .whil (mat_rb t _ (and_of h).1) (matS_rb b _ (and_of h).2)
  | .forDown _ e b, _, h => .forDown (lk_of (and_of h).1) (gs_of (and_of (and_of h).2).1) (mat_rb e _ (and_of (and_of (and_of h).2).2).1) (matS_rb b _ (and_of (and_of (and_of h).2).2).2)
  | .forUp _ e b, _, h => .forUp (lk_of (and_of h).1) (gs_of (and_of (and_of h).2).1) (mat_rb e _ (and_of (and_of (and_of h).2).2).1) (matS_rb b _ (and_of (and_of (and_of h).2).2).2)
  | .forStrs _ e b, _, h => .forStrs (lk_of (and_of h).1) (mat_rb e _ (and_of (and_of h).2).1) (matS_rb b _ (and_of (and_of h).2).2)
  | .brk, _, _ => .brk
  | .pass, _, _ => .pass
  | .ret e, _, h => .ret (mat_rb e _ h)
  | .expr e, _, h => .expr (mat_rb e _ h)
  | .assert e, _, h => .assert (mat_rb e _ h)
  | .try_ b _, _, h => .try_ (matS_rb b _ (and_of h).1) (gk_of (and_of (and_of h).2).1) (and_of (and_of h).2).2
  | .raise_ _, _, h => .raise_ (gk_of (and_of h).1) (and_of h).2
theorem matS_rb {sc : Scope} : ∀ (x : MS) (s : List Stmt), okS sc x s = true → MatS sc x (rbS x s)
  | .nil, _, _ => .nil
  | .cons a r, _, h => .cons (mat1_rb a _ (and_of h).1) (matS_rb r _ (and_of h).2)
end
theorem matS_of {sc : Scope} {x : MS} {s : List Stmt} (h : okS sc x s = true) (e : rbS x s = s) : MatS sc x s := by
  have := matS_rb x s h
  rwa [e] at this
end DaWalk
open PySem PySem.W PyProof.Rows DaHead
set_option Elab.async false
set_option linter.unusedVariables false
set_option linter.constructorNameAsVariable false
set_option maxRecDepth 100000
namespace DaWalk
/-! texts -/
theorem tx_len (l : List Nat) : (txS l).length = l.length := by simp [txS, Str.length]
theorem tx_app (a b : List Nat) : txS a ++ txS b = txS (a ++ b) := by
  show (⟨(txS a).cps ++ (txS b).cps⟩ : Str) = _
  simp [txS]
theorem tx_beq (a b : List Nat) : (txS a == txS b) = (a == b) := by
  rw [Bool.eq_iff_iff, beq_iff_eq, beq_iff_eq]
  constructor
  · intro h
    have := congrArg (fun s : Str => s.cps.toList) h
    simpa [txS] using this
  · rintro rfl; rfl
theorem tx_item {l : List Nat} {i : Int} {c : Nat} (h0 : 0 ≤ i) (h : l[i.toNat]? = some c) : Txt.item (txS l) i = txS [c] := item_meets h0 (by simpa [txS] using h)
theorem tx_slice {l : List Nat} {i j : Int} (h : 0 ≤ i ∧ i ≤ j ∧ j ≤ l.length) : Txt.slice (txS l) (some i) (some j) = txS ((l.drop i.toNat).take (j - i).toNat) := by
  have := beq_iff_eq.mp (slice_closes (x := txS l) (i := i) (j := j) (by simpa [txS] using h))
  simpa [txS] using this
theorem tx_to {l : List Nat} {j : Int} (h : 0 ≤ j ∧ j ≤ l.length) : Txt.slice (txS l) none (some j) = txS (l.take j.toNat) := by
  have := beq_iff_eq.mp (slice_closes_to (x := txS l) (j := j) (by simpa [txS] using h))
  simpa [txS] using this
theorem tx_from {l : List Nat} {i : Int} (h : 0 ≤ i) : Txt.slice (txS l) (some i) none = txS (l.drop i.toNat) := by
  by_cases h2 : i ≤ (txS l).length
  · rw [slice_from_eq h h2 rfl]
    have : ((((txS l).length : Nat) : Int) - i).toNat = l.length - i.toNat := by rw [tx_len]; omega
    rw [this]
    simp [txS]
    exact List.take_of_length_le (by simp)
  · rw [slice_beyond (by omega)]
    rw [tx_len] at h2
    have : l.drop i.toNat = [] := List.drop_eq_nil_of_le (by omega)
    rw [this]; rfl
theorem tx_ends (a b : List Nat) : Txt.endswith (txS a) (txS b) = b.isSuffixOf a := by
  unfold Txt.endswith
  rw [StrLaws.subAt_eq, tx_len, tx_len]
  have e1 : (txS a).cps.toList = a := by simp [txS]
  have e2 : (txS b).cps.toList = b := by simp [txS]
  rw [e1, e2, Bool.eq_iff_iff, Bool.and_eq_true, decide_eq_true_eq, beq_iff_eq, List.isSuffixOf_iff_suffix, List.suffix_iff_eq_drop]
  constructor
  · rintro ⟨h1, h2⟩
    rw [← h2, List.take_of_length_le (by simp; omega), List.length_drop]
    congr 1; omega
  · intro h
    have hl : b.length ≤ a.length := by
      have := congrArg List.length h
      simp at this; omega
    refine ⟨by omega, ?_⟩
    rw [← h]
    exact List.take_of_length_le (Nat.le_refl _)
end DaWalk
open PySem PySem.W PyProof.Rows DaHead
set_option Elab.async false
set_option linter.unusedVariables false
set_option linter.constructorNameAsVariable false
set_option maxRecDepth 100000
namespace DaWalk
/-! shapes that meet no special road -/
section
variable {sc : Scope} {e : ME} {x : Expr} {env : Env}
theorem Mat.star (h : Mat sc e x) (rest : List Expr) : starEach (x :: rest) env = (false, eval x env) :: starEach rest env := by cases h <;> rfl
theorem Mat.subs (h : Mat sc e x) (o i : Value) : subscripted x false o i = operate [o, i] (getItem o i) := by cases h <;> rfl
theorem go_str (b : Expr) (x : Str) (t : Tok) (r : Value) : letTemporaryGo b (.str x t) r = pure () := by cases b <;> rfl
theorem Mat.base (h : Mat sc e x) (attr : Str) : attributeBase x attr env (eval x env) = eval x env := by cases h <;> rfl
theorem Mat.swaps (h : Mat sc e x) (t : Option Expr) (l : Nat) : swapsWith x t l env = pure false := by cases h <;> rfl
theorem Mat.folded (h : Mat sc e x) (v : Value) : foldedSetIterable x env v = pure v := by cases h <;> rfl
noncomputable def isTest : ME → Bool
  | .not _ | .or _ _ | .and _ _ | .and3 _ _ _ | .cmp _ _ _ | .inFn _ _ => true
  | _ => false
theorem Mat.plain (h : Mat sc e x) (ht : isTest e = false) (whole : Sem Value) : isTrue x env whole = (do let v ← whole; standAt x.pos; holding [v] (truthy v)) := by
  cases h <;> first | rfl | exact Bool.noConfusion ht
end

/-! the state seen from a frame -/
structure Rel (w : World) (hb : Heap) (me : Option (Addr × Addr)) (L : Addr) (frs₀ kp : List (Addr × Obj)) (s₀ : Shared) (σ : St) (s : Shared) : Prop where
  hp : ∃ m, Hp w hb me L frs₀ kp m σ.fld s.heap ∧ LocOk w me m σ.loc
  gens : s.gens = s₀.gens
  drawn : s.drawn = s₀.drawn
  os : s.os = s₀.os
structure Cx (w : World) (hb : Heap) (me : Option (Addr × Addr)) (frs₀ kp : List (Addr × Obj)) (mean : ExcName → Option Value) (mg mb : Str → Option Value) (A : Around) : Prop where
  X : (KF w.params).In hb
  T : Top qv (looseW qv lv) mean mg mb hb
  side : Side me frs₀ kp
  hh : A.handled = none
section
variable {w : World} {hb : Heap} {me : Option (Addr × Addr)} {L : Addr} {frs₀ kp : List (Addr × Obj)} {s₀ : Shared} {σ τ : St} {s : Shared} {mean : ExcName → Option Value} {mg mb : Str → Option Value} {A : Around} {m : Str → Option Value}
theorem Rel.toks (R : Rel w hb me L frs₀ kp s₀ σ s) (tk : Nat) : Rel w hb me L frs₀ kp s₀ σ { s with toks := tk } := ⟨R.hp, R.gens, R.drawn, R.os⟩
theorem Rel.step {h' : Heap} {tk : Nat} (R : Rel w hb me L frs₀ kp s₀ σ s) (k : ∀ m news, Fr hb L s.heap m → News hb L s.heap news → Fr hb L h' m ∧ News hb L h' news) : Rel w hb me L frs₀ kp s₀ σ { s with heap := h', toks := tk } := by
  obtain ⟨⟨m, H, l⟩, g, d, o⟩ := R
  exact ⟨⟨m, H.step fun news F N => k m news F N, l⟩, g, d, o⟩
theorem Rel.getL {n : Nm} {v : MV} (R : Rel w hb me L frs₀ kp s₀ σ s) (h : getN n σ.loc = some v) : ∃ m x, Fr hb L s.heap m ∧ m (nm n) = some x ∧ Rep w me x v := by
  obtain ⟨⟨m, H, l⟩, _⟩ := R
  obtain ⟨x, hx, hr⟩ := l n v h
  exact ⟨m, x, H.fr, hx, hr⟩
theorem Rel.fr (R : Rel w hb me L frs₀ kp s₀ σ s) : ∃ m, Fr hb L s.heap m := let ⟨⟨m, H, _⟩, _, _, _⟩ := R; ⟨m, H.fr⟩
theorem Rel.self (R : Rel w hb me L frs₀ kp s₀ σ s) (h : selfOk σ = true) : ∃ x d m, me = some (x, d) ∧ Fr hb L s.heap m ∧ m (nm .self) = some (.ref x) := by
  unfold selfOk at h
  obtain ⟨m, y, F, hy, hr⟩ := R.getL (n := .self) (v := .self) (beq_iff_eq.mp h)
  obtain ⟨x, d, e, rfl⟩ := hr
  exact ⟨x, d, m, e, F, hy⟩
/-- the names that the walked code loads -/
theorem nm_debug (n : Nm) : (nm n == ("__debug__" : Str)) = false := Bool.not_eq_true' _ |>.mp (all_nm (p := fun n => !(nm n == ("__debug__" : Str))) (by decide +kernel) n)
end
noncomputable abbrev CsOf (cs : Scope) (sc : Scope) : Prop := cs = sc
section
variable {w : World} {hb : Heap} {me : Option (Addr × Addr)} {L : Addr} {frs₀ kp : List (Addr × Obj)} {s₀ : Shared} {σ τ : St} {s : Shared} {mean : ExcName → Option Value} {mg mb : Str → Option Value} {A : Around} {E : Value → Shared → Prop}
  {cn : Str} {sc : Scope} {a : Addr} {cd : Value}
theorem e_loc {n : Nm} {v : MV} {p : Pos} {Q : Value → Shared → Prop} (hk : sc.kind = .function) (R : Rel w hb me L frs₀ kp s₀ σ s) (h : getN n σ.loc = some v) (hl : KL sc (nm n)) (hq : ∀ y, Rep w me y v → Q y s) :
    wpAny (model pw w) A (eval (.Name (nm n) p) (envOf cn sc L a cd)) Q E s := by
  obtain ⟨m, x, F, hx, hr⟩ := R.getL h
  exact ld F hx (hq x hr) hk hl (nm_debug n)
theorem e_self {p : Pos} {Q : Value → Shared → Prop} (hk : sc.kind = .function) (R : Rel w hb me L frs₀ kp s₀ σ s) (h : selfOk σ = true) (hl : KL sc (nm .self)) (hq : ∀ x d, me = some (x, d) → Q (.ref x) s) :
    wpAny (model pw w) A (eval (.Name (nm .self) p) (envOf cn sc L a cd)) Q E s := by
  obtain ⟨x, d, m, e, F, hx⟩ := R.self h
  exact ld F hx (hq x d e) hk hl (nm_debug .self)
theorem e_fld {n : Nm} {v : MV} {p q : Pos} {Q : Value → Shared → Prop} (C : Cx w hb me frs₀ kp mean mg mb A) (hk : sc.kind = .function) (R : Rel w hb me L frs₀ kp s₀ σ s) (h : getF n σ = some v) (hl : KL sc (nm .self)) (hf : isFld n = true)
    (hq : ∀ y tk, Rep w me y v → Q y { s with toks := tk }) :
    wpAny (model pw w) A (eval (.Attribute (.Name (nm .self) p) (nm n) q) (envOf cn sc L a cd)) Q E s := by
  unfold getF at h
  split at h
  · rename_i hs
    refine Attribute_Name_ (e_self hk R hs hl fun x d e => ?_)
    subst e
    obtain ⟨⟨m, H, l⟩, _⟩ := R
    obtain ⟨es, k, fl, e1, I, FO⟩ := H.inst
    rw [e1] at h
    obtain ⟨y, hy, hr⟩ := fld_get FO h
    exact get_own H.fr C.X I (k_get _ n) (k_dict _) (k_attr _ n hf).1 (k_attr _ n hf).2 hy (rep_handed hr) (hq y _ hr)
  · cases h
end
end DaWalk
open PySem PySem.W PyProof.Rows DaHead
set_option Elab.async false
set_option linter.unusedVariables false
set_option linter.constructorNameAsVariable false
set_option maxRecDepth 100000
namespace DaWalk
/-- where a def stands -/
noncomputable def fnL : List Addr := [42, 49, 70, 77, 98, 126, 140, 147, 154, 161, 175, 189, 239, 246, 253, 260, 267, 274, 452, 459, 466, 478, 485, 492, 499, 0, 0, 0, 35]
noncomputable def fnAt (n : Nm) : Addr := fnL.getD (idxN .setCurrent n) 0
theorem k_meth (P : Params) (n : Nm) (h : isMeth n = true) : findIn (KF P) (.ref 403) (nm n) = some (some (.ref (fnAt n))) ∧ isFn (KF P) (.ref (fnAt n)) = true ∧ keepIn (KF P) (.ref (fnAt n)) = true := by
  cases n <;> first | exact Bool.noConfusion h | exact ⟨by kernel_rfl, by kernel_rfl, by kernel_rfl⟩
theorem k_def (P : Params) (n : Nm) (h : isDefN n = true) : nsIn (KF P) mainGlobals (nm n) = some (some (.ref (fnAt n))) ∧ keepIn (KF P) (.ref (fnAt n)) = true := by
  cases n <;> first | exact Bool.noConfusion h | exact ⟨by kernel_rfl, by kernel_rfl⟩
theorem k_len (P : Params) : nsIn (KF P) mainGlobals (Str.ofString "len") = some none := by kernel_rfl
theorem k_ord (P : Params) : nsIn (KF P) mainGlobals (Str.ofString "ord") = some none := by kernel_rfl
theorem k_min (P : Params) : nsIn (KF P) mainGlobals (Str.ofString "min") = some none := by kernel_rfl
theorem k_max (P : Params) : nsIn (KF P) mainGlobals (Str.ofString "max") = some none := by kernel_rfl
theorem k_range (P : Params) : nsIn (KF P) mainGlobals (Str.ofString "range") = some none := by kernel_rfl
theorem k_danish (P : Params) : nsIn (KF P) mainGlobals (Str.ofString "DanishStemmer") = some (some (.ref 403)) := by kernel_rfl
theorem k_typeIn (P : Params) : typeIn (KF P) (.ref 403) = some (.type "type") := by kernel_rfl
theorem k_readsIn (P : Params) : readsIn (KF P) 403 (.type "type") = true := by kernel_rfl
/-- the class's tables -/
noncomputable def clsAt (n : Nm) : Addr := [230, 231, 232, 371, 384, 400].getD (idxN .gUndouble n) 0
noncomputable def isCls (n : Nm) : Bool := rng .gUndouble .a2 n
theorem k_cls (P : Params) (n : Nm) (h : isCls n = true) : findCls (KF P) (.ref 403) (.type "type") (nm n) = some (.val (.ref (clsAt n))) := by
  cases n <;> first | exact Bool.noConfusion h | kernel_rfl
noncomputable def glbAt (n : Nm) : Addr := [467, 468, 469].getD (idxN .lawMain n) 0
noncomputable def isGlb (n : Nm) : Bool := rng .lawMain .lawOther n
theorem k_glb (P : Params) (n : Nm) (h : isGlb n = true) : nsIn (KF P) mainGlobals (nm n) = some (some (.ref (glbAt n))) := by
  cases n <;> first | exact Bool.noConfusion h | kernel_rfl
/-! what stands there -/
noncomputable def strsOk : List Value → List (List Nat) → Bool
  | [], [] => true
  | .str x _ :: vs, l :: ls => x == txS l && strsOk vs ls
  | _, _ => false
theorem strs_of : ∀ {vs : List Value} {ls : List (List Nat)}, strsOk vs ls = true → StrsAre vs (ls.map txS)
  | [], [], _ => .nil
  | .str x t :: vs, l :: ls, h => by
    obtain ⟨h1, h2⟩ := Bool.and_eq_true_iff.mp h
    rw [beq_iff_eq.mp h1]
    exact .cons _ _ (strs_of h2)
noncomputable def seqOf (o : Option Obj) : List Value := match o with
  | some ⟨_, _, .seq a _, _⟩ => a.toList
  | _ => []
noncomputable def lstOk (K : Frag) (a : Addr) (ls : List (List Nat)) : Bool := match K.lookup a with
  | some ⟨.type "list", none, .seq vs 0, ⟨[]⟩⟩ => strsOk vs.toList ls && decide (ls.length ≤ 1000) && ls.all (fun x => decide (x.length ≤ 1000))
  | _ => false
noncomputable def amEsOk (es : List DictEntry) (a : Am) : Bool :=
  (match getL (nm .s) es with | some (some (.str x _)) => x == txS a.s | _ => false) && (match getL (nm .subI) es with | some (some (.int i _)) => i == a.sub | _ => false) &&
  (match getL (nm .result) es with | some (some (.int i _)) => i == a.res | _ => false) && decide (a.s.length ≤ 1000)
noncomputable def amOk (K : Frag) (v : Value) (a : Am) : Bool := match v with
  | .ref x => (match K.lookup x with
    | some ⟨.ref 218, some d, .plain, ⟨[]⟩⟩ => (match K.lookup d with
      | some ⟨.type "dict", none, .dict es n, ⟨[]⟩⟩ => amEsOk es.toList a
      | _ => false)
    | _ => false)
  | _ => false
noncomputable def amsOk (K : Frag) : List Value → List Am → Bool
  | [], [] => true
  | v :: vs, a :: as => amOk K v a && amsOk K vs as
  | _, _ => false
noncomputable def lsaOk (K : Frag) (a : Addr) (ls : List Am) : Bool := match K.lookup a with
  | some ⟨.type "list", none, .seq vs 0, ⟨[]⟩⟩ => amsOk K vs.toList ls && decide (ls.length ≤ 1000)
  | _ => false
theorem amEs_of {es : List DictEntry} {a : Am} (h : amEsOk es a = true) : amEs es a := by
  unfold amEsOk at h
  simp only [Bool.and_eq_true, decide_eq_true_eq] at h
  obtain ⟨⟨⟨h1, h2⟩, h3⟩, h4⟩ := h
  refine ⟨?_, ?_, ?_, h4⟩
  · split at h1
    · rename_i e; exact ⟨_, by rw [e, beq_iff_eq.mp h1]⟩
    · cases h1
  · split at h2
    · rename_i e; exact ⟨_, by rw [e, beq_iff_eq.mp h2]⟩
    · cases h2
  · split at h3
    · rename_i e; exact ⟨_, by rw [e, beq_iff_eq.mp h3]⟩
    · cases h3
theorem am_of {w : World} {v : Value} {a : Am} (h : amOk (KF w.params) v a = true) : AmRep w v a := by
  unfold amOk at h
  split at h
  · split at h
    · split at h
      · exact ⟨_, _, _, _, rfl, by assumption, by assumption, amEs_of h⟩
      · cases h
    · cases h
  · cases h
theorem ams_of {w : World} : ∀ {vs : List Value} {as : List Am}, amsOk (KF w.params) vs as = true → AmsAre w vs as
  | [], [], _ => .nil
  | v :: vs, a :: as, h => by
    obtain ⟨h1, h2⟩ := Bool.and_eq_true_iff.mp h
    exact .cons (am_of h1) (ams_of h2)
theorem lst_of {w : World} {me : Option (Addr × Addr)} {a : Addr} {ls : List (List Nat)} (h : lstOk (KF w.params) a ls = true) : Rep w me (.ref a) (.lstS ls) := by
  unfold lstOk at h
  split at h
  · rename_i e
    simp only [Bool.and_eq_true, decide_eq_true_eq, List.all_eq_true] at h
    exact ⟨h.1.2, h.2, a, _, rfl, e, strs_of h.1.1⟩
  · cases h
theorem lsa_of {w : World} {me : Option (Addr × Addr)} {a : Addr} {ls : List Am} (h : lsaOk (KF w.params) a ls = true) : Rep w me (.ref a) (.ams ls) := by
  unfold lsaOk at h
  split at h
  · rename_i e
    simp only [Bool.and_eq_true, decide_eq_true_eq] at h
    exact ⟨h.2, a, _, rfl, e, ams_of h.1⟩
  · cases h
theorem tb_cls {w : World} {me : Option (Addr × Addr)} {n : Nm} {v : MV} (h : tb.cls n = some v) : isCls n = true ∧ Rep w me (.ref (clsAt n)) v := by
  cases n <;> first | (cases h; done) | skip
  · cases h; exact ⟨rfl, 230, end0 w, rfl, (by kernel_rfl), set0_is w⟩
  · cases h; exact ⟨rfl, 231, end1 w, rfl, (by kernel_rfl), set1_is w⟩
  · cases h; exact ⟨rfl, 232, end2 w, rfl, (by kernel_rfl), set2_is w⟩
  · cases h; exact ⟨rfl, lsa_of (by kernel_rfl)⟩
  · cases h; exact ⟨rfl, lsa_of (by kernel_rfl)⟩
  · cases h; exact ⟨rfl, lsa_of (by kernel_rfl)⟩
theorem tb_glb {w : World} {me : Option (Addr × Addr)} {n : Nm} {v : MV} (h : tb.glb n = some v) : isGlb n = true ∧ Rep w me (.ref (glbAt n)) v := by
  cases n <;> first | (cases h; done) | skip
  · cases h; exact ⟨rfl, lst_of (by kernel_rfl)⟩
  · cases h; exact ⟨rfl, lst_of (by kernel_rfl)⟩
  · cases h; exact ⟨rfl, lst_of (by kernel_rfl)⟩
end DaWalk
open PySem PySem.W PyProof.Rows DaHead
set_option Elab.async false
set_option linter.unusedVariables false
set_option linter.constructorNameAsVariable false
set_option maxRecDepth 100000
namespace DaWalk
inductive ArgsAre (w : World) (me : Option (Addr × Addr)) : List Value → List MV → Prop
  | nil : ArgsAre w me [] []
  | cons {v mv vs mvs} : Rep w me v mv → ArgsAre w me vs mvs → ArgsAre w me (v :: vs) (mv :: mvs)
noncomputable def withSelf (me : Option (Addr × Addr)) (f : Nm) (vals : List Value) : List Value := if isMeth f then (match me with
  | some (x, _) => .ref x :: vals
  | none => vals) else vals
structure Fx (A : Around) (env : Env) (l : List Env) (L : Addr) (frs₀ : List (Addr × Obj)) (rm : Nat) : Prop where
  fr : A.frames = some (env :: l)
  frame : env.frame = some L
  kind : env.scope.kind ≠ .module
  frs : TI.Frs l frs₀
  depth : A.depth + rm < recursionLimit
/-- the calls that the oracle answers -/
noncomputable def OrcOk (w : World) (hb : Heap) (me : Option (Addr × Addr)) (mean : ExcName → Option Value) (mg mb : Str → Option Value) (rm : Nat) (O : Orc) : Prop :=
  ∀ (f : Nm) (args : List MV) (fl : Fl) (r : MV) (fl' : Fl), O f args fl = some (r, fl') →
  ∀ (A : Around) (L : Addr) (frs₀ kp : List (Addr × Obj)) (m : Str → Option Value) (s : Shared) (env : Env) (l : List Env) (vals : List Value) (R : Result → Shared → Prop),
    Cx w hb me frs₀ kp mean mg mb A → Fx A env l L frs₀ rm → Hp w hb me L frs₀ kp m fl s.heap → ArgsAre w me vals args →
    (∀ y h' tk, Rep w me y r → Hp w hb me L frs₀ kp m fl' h' → R (.ok (.ret y)) { s with heap := h', toks := tk }) →
    codeAny (model pw w) A (.call (.ref (fnAt f)) ⟨withSelf me f vals, []⟩) R s
/-- a def that makes a list -/
noncomputable def LstOk (w : World) (hb : Heap) (me : Option (Addr × Addr)) (mean : ExcName → Option Value) (mg mb : Str → Option Value) (rm : Nat) : Prop :=
  ∀ (f : Nm) (ls : List Nat), lstV f = some ls →
  ∀ (A : Around) (L : Addr) (frs₀ kp : List (Addr × Obj)) (m : Str → Option Value) (fl : Fl) (s : Shared) (env : Env) (l : List Env) (R : Result → Shared → Prop),
    Cx w hb me frs₀ kp mean mg mb A → Fx A env l L frs₀ rm → Hp w hb me L frs₀ kp m fl s.heap →
    (∀ a vs h' tk, h'.IsList a vs.toArray → StrsAre vs (ls.map chrS) → Hp w hb me L frs₀ kp m fl h' → R (.ok (.ret (.ref a))) { s with heap := h', toks := tk }) →
    codeAny (model pw w) A (.call (.ref (fnAt f)) ⟨[], []⟩) R s
section
variable {w : World} {hb : Heap} {me : Option (Addr × Addr)} {L : Addr} {frs₀ kp : List (Addr × Obj)} {s₀ : Shared} {σ τ : St} {s : Shared} {mean : ExcName → Option Value} {mg mb : Str → Option Value} {A : Around} {E : Value → Shared → Prop}
  {cn : Str} {sc : Scope} {a : Addr} {cd : Value} {l : List Env} {rm : Nat} {O : Orc}
theorem Rel.K (C : Cx w hb me frs₀ kp mean mg mb A) (R : Rel w hb me L frs₀ kp s₀ σ s) : (KF w.params).In s.heap := by
  obtain ⟨m, F⟩ := R.fr
  exact C.X.keeps F.keep
theorem e_glob {x : Str} {v : Value} {p : Pos} {Q : Value → Shared → Prop} (C : Cx w hb me frs₀ kp mean mg mb A) (hk : sc.kind = .function) (R : Rel w hb me L frs₀ kp s₀ σ s) (e : nsIn (KF w.params) mainGlobals x = some (some v)) (hl : KG sc x)
    (hd : (x == ("__debug__" : Str)) = false) (hq : Q v s) : wpAny (model pw w) A (eval (.Name x p) (envOf cn sc L a cd)) Q E s := by
  obtain ⟨m, F⟩ := R.fr
  exact name_K F C.X (topRead_of C.T) e hq hk hl hd
theorem e_blt {x : Str} {v : Value} {p : Pos} {Q : Value → Shared → Prop} (C : Cx w hb me frs₀ kp mean mg mb A) (hk : sc.kind = .function) (R : Rel w hb me L frs₀ kp s₀ σ s) (e : nsIn (KF w.params) mainGlobals x = some none) (hl : KG sc x)
    (hv : bootBuiltins x = some v) (hn : x ≠ "__name__") (hd : (x == ("__debug__" : Str)) = false) (hq : Q v s) : wpAny (model pw w) A (eval (.Name x p) (envOf cn sc L a cd)) Q E s := by
  obtain ⟨m, F⟩ := R.fr
  exact name_B F C.X (topRead_of C.T) e hv hn hq hk hl hd
theorem b_len : bootBuiltins (Str.ofString "len") = some (.builtin "len") := by decide +kernel
theorem b_ord : bootBuiltins (Str.ofString "ord") = some (.builtin "ord") := by decide +kernel
theorem b_min : bootBuiltins (Str.ofString "min") = some (.builtin "min") := by decide +kernel
theorem b_max : bootBuiltins (Str.ofString "max") = some (.builtin "max") := by decide +kernel
theorem b_range : bootBuiltins (Str.ofString "range") = some (.type "range") := by decide +kernel
/-- a call answered -/
theorem e_call {f : Nm} {args : List MV} {vals : List Value} {v : MV} {Q : Value → Shared → Prop} (C : Cx w hb me frs₀ kp mean mg mb A) (hF : Fx A (envOf cn sc L a cd) l L frs₀ rm) (hO : OrcOk w hb me mean mg mb rm O) (R : Rel w hb me L frs₀ kp s₀ σ s)
    (h : callM O f args σ = some (v, τ)) (ha : ArgsAre w me vals args) (hq : ∀ y s', Rep w me y v → Rel w hb me L frs₀ kp s₀ τ s' → Q y s') : wpAny (model pw w) A (call (.ref (fnAt f)) (withSelf me f vals)) Q E s := by
  unfold callM at h
  obtain ⟨⟨r, fl'⟩, h1, h2⟩ := Option.map_eq_some_iff.mp h
  cases h2
  obtain ⟨⟨m, H, l'⟩, g, d, o⟩ := R
  exact wpAny_call (hO f args _ _ _ h1 A L frs₀ kp m s _ l vals _ C hF H ha fun y h' tk hr H' => hq y _ hr ⟨⟨m, H', l'⟩, g, d, o⟩)
theorem withSelf_meth {f : Nm} {vals : List Value} {x d : Addr} (h : isMeth f = true) (e : me = some (x, d)) : withSelf me f vals = [.ref x] ++ vals := by
  subst e; unfold withSelf; rw [if_pos h]; rfl
theorem withSelf_def {f : Nm} {vals : List Value} (h : isMeth f = false) : withSelf me f vals = vals := by unfold withSelf; rw [h]; rfl
theorem e_meth {n : Nm} {x d : Addr} {pl : Sem Bool} {Q : Value × List Value → Shared → Prop} (C : Cx w hb me frs₀ kp mean mg mb A) (R : Rel w hb me L frs₀ kp s₀ σ s) (e : me = some (x, d)) (hm : isMeth n = true) (ho : methOk n σ = true) (hq : Q (.ref (fnAt n), [.ref x]) s) :
    wpAny (model pw w) A (getMethod (.ref x) (nm n) pl) Q E s := by
  subst e
  obtain ⟨⟨m, H, l'⟩, _⟩ := R
  obtain ⟨es, k, fl, e1, I, FO⟩ := H.inst
  unfold methOk at ho
  rw [e1] at ho
  have hn : getN n fl = none := by simpa using (Bool.and_eq_true_iff.mp ho).2
  exact method_inst H.fr C.X I (k_get _ n) (k_meth _ n hm).1 (k_meth _ n hm).2.1 (fld_miss FO hn) hq
end
end DaWalk
open PySem PySem.W PyProof.Rows DaHead
set_option Elab.async false
set_option linter.unusedVariables false
set_option linter.constructorNameAsVariable false
set_option maxRecDepth 100000
namespace DaWalk
section
variable {w : World} {hb : Heap} {me : Option (Addr × Addr)} {L : Addr} {frs₀ kp : List (Addr × Obj)} {s₀ : Shared} {σ τ : St} {s : Shared} {mean : ExcName → Option Value} {mg mb : Str → Option Value} {A : Around} {E : Value → Shared → Prop}
  {cn : Str} {sc : Scope} {a : Addr} {cd : Value} {l : List Env} {rm : Nat} {O : Orc}
theorem dbg_len : ((Str.ofString "len") == ("__debug__" : Str)) = false := by decide +kernel
theorem dbg_ord : ((Str.ofString "ord") == ("__debug__" : Str)) = false := by decide +kernel
theorem dbg_min : ((Str.ofString "min") == ("__debug__" : Str)) = false := by decide +kernel
theorem dbg_max : ((Str.ofString "max") == ("__debug__" : Str)) = false := by decide +kernel
theorem dbg_range : ((Str.ofString "range") == ("__debug__" : Str)) = false := by decide +kernel
theorem dbg_danish : ((Str.ofString "DanishStemmer") == ("__debug__" : Str)) = false := by decide +kernel
theorem ams_len : ∀ {vs : List Value} {as : List Am}, AmsAre w vs as → vs.length = as.length
  | _, _, .nil => rfl
  | _, _, .cons _ h => by simp [ams_len h]
theorem ams_at : ∀ {vs : List Value} {as : List Am} {i : Nat} {x : Am}, AmsAre w vs as → as[i]? = some x → ∃ v, vs[i]? = some v ∧ AmRep w v x
  | _, _, _, _, .nil, h => by simp at h
  | _, _, 0, _, .cons (v := v) hv _, h => by simp at h; subst h; exact ⟨v, rfl, hv⟩
  | _, _, i + 1, _, .cons _ hr, h => by
    simp at h
    obtain ⟨v, h1, h2⟩ := ams_at hr h
    exact ⟨v, by simpa using h1, h2⟩
theorem isList_of {h : Heap} {a : Addr} {vs : List Value} (X : (KF w.params).In h) (e : (KF w.params).lookup a = some (listObj vs)) : h.IsList a vs.toArray := ⟨_, X _ _ e, rfl, 0, rfl⟩

theorem callWith_b2 {pos : Pos} {id : String} {t u : Sem Value} {M : Model} {Q : Value → Shared → Prop} (h : wpAny M A t (fun v s₁ => wpAny M A u (fun x s₂ => wpAny M A (call (.builtin id) [v, x]) Q E s₂) E s₁) E s) :
    wpAny M A (callWith pos (.builtin id) [] [(false, t), (false, u)] []) Q E s :=
  Calls.callWith_builtin rfl (Calls.evalArgs_plain (Calls.spliced_cons (wpAny_mono h (fun _ _ h₁ => Calls.spliced_cons (wpAny_mono h₁ (fun _ _ h₂ => Calls.spliced_nil h₂) fun _ _ e => e)) fun _ _ e => e)))
theorem fitsOf {i : Int} {n : Nat} (h0 : 0 ≤ i) (h : i < n) (hn : n ≤ 1000) : fitsSsize i = true := by
  exact fitsSsize_of (N := 9223372036854775808) (by omega) (by omega) (Int.le_refl _)
theorem Rel.stepN {h' : Heap} {tk : Nat} (R : Rel w hb me L frs₀ kp s₀ σ s) (k : ∀ m news, Fr hb L s.heap m → News hb L s.heap news → Fr hb L h' m ∧ News hb L h' news) : Rel w hb me L frs₀ kp s₀ σ { s with heap := h', toks := tk } := R.step k
theorem Rel.open (R : Rel w hb me L frs₀ kp s₀ σ s) : ∃ m news, Fr hb L s.heap m ∧ News hb L s.heap news ∧ ∀ h' tk, Fr hb L h' m → News hb L h' news → Rel w hb me L frs₀ kp s₀ σ { s with heap := h', toks := tk } := by
  obtain ⟨⟨m, ⟨es, n, frs, F, N, S, O⟩, l⟩, g, d, o⟩ := R
  exact ⟨m, _, F, N, fun h' tk F' N' => ⟨⟨m, ⟨es, n, frs, F', N', S, O⟩, l⟩, g, d, o⟩⟩
theorem mcall {o : Expr} {name : Str} {apos pos : Pos} {args : List Expr} {env : Env} {M : Model} {Q : Value → Shared → Prop} (hbase : attributeBase o name env (eval o env) = eval o env)
    (hfew : methodCallForm (args.length + ([] : List Keyword).length) (backTo pos (starEach args env)) (backToKw pos (keywordEach [] env)) = true) (hline : (apos.endLine == pos.line) = true)
    (h : wpAny M A (eval o env) (fun ov s₁ => wpAny M A (getMethod ov name (do return (← importBound o env).getD true)) (fun fx s₂ => wpAny M A (callWith pos fx.1 fx.2 (backTo pos (starEach args env)) []) Q E s₂) E s₁) E s) :
    wpAny M A (eval (.Call (.Attribute o name apos) args [] pos) env) Q E s := by
  rw [arm_eval_Call, hbase]
  refine wpAny_bind (wpAny_mono h (fun ov s₁ h₁ => ?_) fun _ _ e => e)
  refine wpAny_bind (wpAny_standAt ?_)
  have hpos : methodCallPos true o env apos pos = pure pos := by unfold methodCallPos; simp [hline]
  unfold methodCall
  rw [hfew]
  unfold calleeOf
  rw [if_pos rfl]
  refine wpAny_bind (wpAny_holding (wpAny_mono h₁ (fun fx s₂ h₂ => ?_) fun _ _ e => e))
  obtain ⟨f, first⟩ := fx
  exact wpAny_bind (wpAny_of_eq hpos h₂)
theorem attr_self {p : Pos} {n : Str} {env : Env} : attributeBase (.Name (nm .self) p) n env (eval (.Name (nm .self) p) env) = eval (.Name (nm .self) p) env := rfl
theorem asI_of {v : MV} {i : Int} (h : asI v = some i) : v = .int i := by cases v <;> cases h; rfl
theorem asS_of {v : MV} {i : List Nat} (h : asS v = some i) : v = .str i := by cases v <;> cases h; rfl
theorem asB_of {v : MV} {i : Bool} (h : asB v = some i) : v = .bool i := by cases v <;> cases h; rfl
theorem asA_of {v : MV} {i : Am} (h : asA v = some i) : v = .am i := by cases v <;> cases h; rfl
theorem asL_of {v : MV} {i : List (List Nat)} (h : asL v = some i) : v = .lstS i := by cases v <;> cases h; rfl
theorem as1_of {l : List Nat} {c : Nat} (h : as1 l = some c) : l = [c] := by
  match l, h with
  | [c], rfl => rfl
theorem ite_of {α : Type} {c : Prop} [Decidable c] {a : Option α} {r : α} (h : (if c then a else none) = some r) : c ∧ a = some r := by
  by_cases q : c
  · rw [if_pos q] at h; exact ⟨q, h⟩
  · rw [if_neg q] at h; cases h
theorem bind_of {α β : Type} {o : Option α} {f : α → Option β} {r : β} (h : o.bind f = some r) : ∃ a, o = some a ∧ f a = some r := Option.bind_eq_some_iff.mp h
theorem map_of {α β : Type} {o : Option α} {f : α → β} {r : β} (h : o.map f = some r) : ∃ a, o = some a ∧ f a = r := Option.map_eq_some_iff.mp h
theorem subM_of {a b r : MV} (h : subM a b = some r) : ∃ i j, a = .int i ∧ b = .int j ∧ r = .int (i - j) := by
  obtain ⟨i, h1, h⟩ := bind_of h
  obtain ⟨j, h2, h⟩ := map_of h
  exact ⟨i, j, asI_of h1, asI_of h2, h.symm⟩
theorem addI_of {a b r : MV} (h : addI a b = some r) : ∃ i j, a = .int i ∧ b = .int j ∧ r = .int (i + j) := by
  obtain ⟨i, h1, h⟩ := bind_of h
  obtain ⟨j, h2, h⟩ := map_of h
  exact ⟨i, j, asI_of h1, asI_of h2, h.symm⟩
theorem minM_of {a b r : MV} (h : minM a b = some r) : ∃ i j, a = .int i ∧ b = .int j ∧ r = .int (if j < i then j else i) := by
  obtain ⟨i, h1, h⟩ := bind_of h
  obtain ⟨j, h2, h⟩ := map_of h
  exact ⟨i, j, asI_of h1, asI_of h2, h.symm⟩
theorem maxM_of {a b r : MV} (h : maxM a b = some r) : ∃ i j, a = .int i ∧ b = .int j ∧ r = .int (if j > i then j else i) := by
  obtain ⟨i, h1, h⟩ := bind_of h
  obtain ⟨j, h2, h⟩ := map_of h
  exact ⟨i, j, asI_of h1, asI_of h2, h.symm⟩
theorem shrM_of {a r : MV} (h : shrM a = some r) : ∃ i, a = .int i ∧ 0 ≤ i ∧ r = .int (i / 2) := by
  obtain ⟨i, h1, h⟩ := bind_of h
  obtain ⟨h2, h⟩ := ite_of h
  exact ⟨i, asI_of h1, h2, (Option.some.inj h).symm⟩
theorem ordM_of {a r : MV} (h : ordM a = some r) : ∃ c, a = .str [c] ∧ r = .int c := by
  obtain ⟨l, h1, h⟩ := bind_of h
  obtain ⟨c, h2, h⟩ := map_of h
  exact ⟨c, as1_of h2 ▸ asS_of h1, h.symm⟩
theorem slcM_of {a b c r : MV} (h : slcM a b c = some r) : ∃ l i j, a = .str l ∧ b = .int i ∧ c = .int j ∧ (0 ≤ i ∧ i ≤ j ∧ j ≤ l.length) ∧ r = .str ((l.drop i.toNat).take (j - i).toNat) := by
  obtain ⟨l, h1, h⟩ := bind_of h
  obtain ⟨i, h2, h⟩ := bind_of h
  obtain ⟨j, h3, h⟩ := bind_of h
  obtain ⟨h4, h⟩ := ite_of h
  exact ⟨l, i, j, asS_of h1, asI_of h2, asI_of h3, h4, (Option.some.inj h).symm⟩
theorem slcFromM_of {a b r : MV} (h : slcFromM a b = some r) : ∃ l i, a = .str l ∧ b = .int i ∧ 0 ≤ i ∧ r = .str (l.drop i.toNat) := by
  obtain ⟨l, h1, h⟩ := bind_of h
  obtain ⟨i, h2, h⟩ := bind_of h
  obtain ⟨h4, h⟩ := ite_of h
  exact ⟨l, i, asS_of h1, asI_of h2, h4, (Option.some.inj h).symm⟩
theorem slcToM_of {a b r : MV} (h : slcToM a b = some r) : ∃ l i, a = .str l ∧ b = .int i ∧ (0 ≤ i ∧ i ≤ l.length) ∧ r = .str (l.take i.toNat) := by
  obtain ⟨l, h1, h⟩ := bind_of h
  obtain ⟨i, h2, h⟩ := bind_of h
  obtain ⟨h4, h⟩ := ite_of h
  exact ⟨l, i, asS_of h1, asI_of h2, h4, (Option.some.inj h).symm⟩
theorem endsM_of {a b r : MV} (h : endsM a b = some r) : ∃ l k, a = .str l ∧ b = .str k ∧ r = .bool (k.isSuffixOf l) := by
  obtain ⟨l, h1, h⟩ := bind_of h
  obtain ⟨k, h2, h⟩ := map_of h
  exact ⟨l, k, asS_of h1, asS_of h2, h.symm⟩
theorem addM_of {a b r : MV} (h : addM a b = some r) : (∃ i j, a = .int i ∧ b = .int j ∧ r = .int (i + j)) ∨ ∃ l k, a = .str l ∧ b = .str k ∧ l.length + k.length ≤ 1000 ∧ r = .str (l ++ k) := by
  cases a with
  | int i =>
    obtain ⟨j, h2, h⟩ := map_of h
    exact .inl ⟨i, j, rfl, asI_of h2, h.symm⟩
  | str l =>
    obtain ⟨k, h2, h⟩ := bind_of h
    obtain ⟨h4, h⟩ := ite_of h
    exact .inr ⟨l, k, rfl, asS_of h2, h4, (Option.some.inj h).symm⟩
  | _ => cases h
theorem idxM_of {y : Bool} {a b r : MV} (h : idxM y a b = some r) : (∃ l i c, a = .str l ∧ b = .int i ∧ 0 ≤ i ∧ l[i.toNat]? = some c ∧ r = .str [c]) ∨ ∃ l i c, y = true ∧ a = .ams l ∧ b = .int i ∧ 0 ≤ i ∧ l[i.toNat]? = some c ∧ r = .am c := by
  cases a with
  | str l =>
    obtain ⟨i, h2, h⟩ := bind_of h
    obtain ⟨h4, h⟩ := ite_of h
    obtain ⟨c, h5, h⟩ := map_of h
    exact .inl ⟨l, i, c, rfl, asI_of h2, h4, h5, h.symm⟩
  | ams l =>
    obtain ⟨hy, h⟩ := ite_of h
    obtain ⟨i, h2, h⟩ := bind_of h
    obtain ⟨h4, h⟩ := ite_of h
    obtain ⟨c, h5, h⟩ := map_of h
    exact .inr ⟨l, i, c, hy, rfl, asI_of h2, h4, h5, h.symm⟩
  | _ => cases h
theorem amfM_of {v r : MV} {n : Nm} (h : amfM v n = some r) : ∃ a, v = .am a ∧ ((n = .s ∧ r = .str a.s) ∨ (n = .subI ∧ r = .int a.sub) ∨ (n = .result ∧ r = .int a.res)) := by
  obtain ⟨a, h1, h⟩ := bind_of h
  refine ⟨a, asA_of h1, ?_⟩
  have inj : ∀ {k : Nm}, Nat.beq n.ctorIdx k.ctorIdx = true → n = k := fun {k} e => ctor_inj (Nat.eq_of_beq_eq_true e)
  split at h
  · rename_i e; exact .inl ⟨inj e, (Option.some.inj h).symm⟩
  · split at h
    · rename_i e; exact .inr (.inl ⟨inj e, (Option.some.inj h).symm⟩)
    · split at h
      · rename_i e; exact .inr (.inr ⟨inj e, (Option.some.inj h).symm⟩)
      · cases h
/-- what an expression gives -/
theorem sound_ev {e : ME} {x : Expr} (hM : Mat sc e x) (C : Cx w hb me frs₀ kp mean mg mb A) (hk : sc.kind = .function) (hF : Fx A (envOf cn sc L a cd) l L frs₀ rm) (hO : OrcOk w hb me mean mg mb rm O) :
    ∀ {σ τ : St} {v : MV} {s : Shared} {Q : Value → Shared → Prop}, ev tb O e σ = some (v, τ) → Rel w hb me L frs₀ kp s₀ σ s → (∀ y s', Rep w me y v → Rel w hb me L frs₀ kp s₀ τ s' → Q y s') →
      wpAny (model pw w) A (eval x (envOf cn sc L a cd)) Q E s := by
  induction hM with
  | none => intro σ τ v s Q h R hq; cases h; exact Constant_none (hq _ _ rfl R)
  | bool => intro σ τ v s Q h R hq; cases h; exact Constant_bool (hq _ _ rfl R)
  | int => intro σ τ v s Q h R hq; cases h; exact wpAny_Constant_int (hq _ _ ⟨_, rfl⟩ (R.toks _))
  | str hl => intro σ τ v s Q h R hq; cases h; exact wpAny_Constant_str (hq _ _ ⟨hl, _, rfl⟩ (R.toks _))
  | neg1 => intro σ τ v s Q h R hq; cases h; exact wpAny_UnaryOp (wpAny_Constant_int (P.neg_int (hq _ _ ⟨_, rfl⟩ ((R.toks _).toks _))))
  | loc hl =>
    intro σ τ v s Q h R hq
    obtain ⟨u, h1, h2⟩ := Option.map_eq_some_iff.mp h
    cases h2
    exact e_loc hk R h1 hl fun y hr => hq y s hr R
  | fld hl hf =>
    intro σ τ v s Q h R hq
    obtain ⟨u, h1, h2⟩ := Option.map_eq_some_iff.mp h
    cases h2
    exact e_fld C hk R h1 hl hf fun y tk hr => hq y _ hr (R.toks tk)
  | clsv hl =>
    intro σ τ v s Q h R hq
    obtain ⟨u, h1, h2⟩ := Option.map_eq_some_iff.mp h
    cases h2
    obtain ⟨hc, hr⟩ := tb_cls (w := w) (me := me) h1
    refine Attribute_Name_ (e_glob C hk R (k_danish _) hl dbg_danish ?_)
    obtain ⟨m, F⟩ := R.fr
    exact cls_val F C.X (k_typeIn _) (k_readsIn _) (k_cls _ _ hc) rfl (hq _ _ hr (R.toks _))
  | glob hl =>
    intro σ τ v s Q h R hq
    obtain ⟨u, h1, h2⟩ := Option.map_eq_some_iff.mp h
    cases h2
    obtain ⟨hc, hr⟩ := tb_glb (w := w) (me := me) h1
    exact e_glob C hk R (k_glb _ _ hc) hl (nm_debug _) (hq _ _ hr R)
  | add ha hb ih1 ih2 =>
    intro σ τ v s Q h R hq
    obtain ⟨p, h1, h⟩ := Option.bind_eq_some_iff.mp h
    obtain ⟨q, h2, h⟩ := Option.bind_eq_some_iff.mp h
    obtain ⟨r, h3, h4⟩ := Option.map_eq_some_iff.mp h
    cases h4
    refine wpAny_BinOp (ih1 h1 R fun y s₁ hr1 R1 => ih2 h2 R1 fun z s₂ hr2 R2 => ?_)
    obtain ⟨p1, p2⟩ := p
    obtain ⟨q1, q2⟩ := q
    rcases addM_of h3 with ⟨i, j, rfl, rfl, rfl⟩ | ⟨x, y, rfl, rfl, hz, rfl⟩
    · obtain ⟨t, rfl⟩ := hr1
      obtain ⟨u, rfl⟩ := hr2
      exact P.add_int (hq _ _ ⟨_, rfl⟩ (R2.toks _))
    · obtain ⟨l1, t, rfl⟩ := hr1
      obtain ⟨l2, u, rfl⟩ := hr2
      · refine PyProof.Rows.add_str (fun t' tk => ?_) (by rw [tx_len, tx_len]; unfold sizeLine; omega)
        rw [tx_app]
        exact hq _ _ ⟨by rw [List.length_append]; exact hz, _, rfl⟩ (R2.toks _)
  | sub ha hb ih1 ih2 =>
    intro σ τ v s Q h R hq
    obtain ⟨p, h1, h⟩ := Option.bind_eq_some_iff.mp h
    obtain ⟨q, h2, h⟩ := Option.bind_eq_some_iff.mp h
    obtain ⟨r, h3, h4⟩ := Option.map_eq_some_iff.mp h
    cases h4
    refine wpAny_BinOp (ih1 h1 R fun y s₁ hr1 R1 => ih2 h2 R1 fun z s₂ hr2 R2 => ?_)
    obtain ⟨p1, p2⟩ := p
    obtain ⟨q1, q2⟩ := q
    obtain ⟨i, j, rfl, rfl, rfl⟩ := subM_of h3
    obtain ⟨t, rfl⟩ := hr1
    obtain ⟨u, rfl⟩ := hr2
    exact P.sub_int (hq _ _ ⟨_, rfl⟩ (R2.toks _))
  | shr1 ha ih1 =>
    intro σ τ v s Q h R hq
    obtain ⟨p, h1, h⟩ := Option.bind_eq_some_iff.mp h
    obtain ⟨r, h3, h4⟩ := Option.map_eq_some_iff.mp h
    cases h4
    refine wpAny_BinOp (ih1 h1 R fun y s₁ hr1 R1 => wpAny_Constant_int ?_)
    obtain ⟨p1, p2⟩ := p
    obtain ⟨i, rfl, h0, rfl⟩ := shrM_of h3
    obtain ⟨t, rfl⟩ := hr1
    exact wpAny_rshift1_int h0 (hq _ _ ⟨_, rfl⟩ ((R1.toks _).toks _))
  | cmp => intro σ τ v s Q h R hq; cases h
  | inFn => intro σ τ v s Q h R hq; cases h
  | len hl ha ih1 =>
    intro σ τ v s Q h R hq
    obtain ⟨p, h1, h⟩ := Option.bind_eq_some_iff.mp h
    obtain ⟨r, h3, h4⟩ := Option.map_eq_some_iff.mp h
    cases h4
    refine Call_Name1 (e_blt C hk R (k_len _) hl b_len (by decide) dbg_len ?_) (ha.star [])
    refine PySem.callWith_builtin1 (ih1 h1 R fun y s₁ hr1 R1 => ?_)
    obtain ⟨p1, p2⟩ := p
    cases p1 <;> first | (cases h3; done) | skip
    · cases h3
      obtain ⟨hz, t, rfl⟩ := hr1
      refine P.len_str (by rw [tx_len]; omega) ?_
      rw [tx_len]
      exact hq _ _ ⟨_, rfl⟩ (R1.toks _)
    · cases h3
      obtain ⟨hz, _, b, vs, rfl, hb', hs⟩ := hr1
      have hz' : vs.length = (‹List (List Nat)›).length := by rw [hs.len_eq, List.length_map]
      refine PyProof.Rows.len_list (isList_of (R1.K C) hb') (by rw [List.size_toArray, hz']; omega) ?_
      rw [List.size_toArray, hz']
      exact hq _ _ ⟨_, rfl⟩ (R1.toks _)
    · cases h3
      obtain ⟨hz, b, vs, rfl, hb', hs⟩ := hr1
      refine PyProof.Rows.len_list (isList_of (R1.K C) hb') (by rw [List.size_toArray, ams_len hs]; omega) ?_
      rw [List.size_toArray, ams_len hs]
      exact hq _ _ ⟨_, rfl⟩ (R1.toks _)
  | ord hl ha ih1 =>
    intro σ τ v s Q h R hq
    obtain ⟨p, h1, h⟩ := Option.bind_eq_some_iff.mp h
    obtain ⟨r, h3, h4⟩ := Option.map_eq_some_iff.mp h
    cases h4
    refine Call_Name1 (e_blt C hk R (k_ord _) hl b_ord (by decide) dbg_ord ?_) (ha.star [])
    refine PySem.callWith_builtin1 (ih1 h1 R fun y s₁ hr1 R1 => ?_)
    obtain ⟨p1, p2⟩ := p
    obtain ⟨c, rfl, rfl⟩ := ordM_of h3
    obtain ⟨hz, t, rfl⟩ := hr1
    exact P.ord_of_char (hq _ _ ⟨_, rfl⟩ (R1.toks _))
  | min hl ha hb ih1 ih2 =>
    intro σ τ v s Q h R hq
    obtain ⟨p, h1, h⟩ := Option.bind_eq_some_iff.mp h
    obtain ⟨q, h2, h⟩ := Option.bind_eq_some_iff.mp h
    obtain ⟨r, h3, h4⟩ := Option.map_eq_some_iff.mp h
    cases h4
    refine Call_Name2 (e_blt C hk R (k_min _) hl b_min (by decide) dbg_min ?_) (by rw [ha.star, hb.star]; rfl)
    refine callWith_b2 (ih1 h1 R fun y s₁ hr1 R1 => ih2 h2 R1 fun z s₂ hr2 R2 => ?_)
    obtain ⟨p1, p2⟩ := p
    obtain ⟨q1, q2⟩ := q
    obtain ⟨i, j, rfl, rfl, rfl⟩ := minM_of h3
    obtain ⟨t, rfl⟩ := hr1
    obtain ⟨u, rfl⟩ := hr2
    obtain ⟨m, news, F, N, back⟩ := R2.open
    exact min_two_N C.hh F N fun h' tk F' N' => hq _ _ ⟨_, rfl⟩ (back h' tk F' N')
  | max hl ha hb ih1 ih2 =>
    intro σ τ v s Q h R hq
    obtain ⟨p, h1, h⟩ := Option.bind_eq_some_iff.mp h
    obtain ⟨q, h2, h⟩ := Option.bind_eq_some_iff.mp h
    obtain ⟨r, h3, h4⟩ := Option.map_eq_some_iff.mp h
    cases h4
    refine Call_Name2 (e_blt C hk R (k_max _) hl b_max (by decide) dbg_max ?_) (by rw [ha.star, hb.star]; rfl)
    refine callWith_b2 (ih1 h1 R fun y s₁ hr1 R1 => ih2 h2 R1 fun z s₂ hr2 R2 => ?_)
    obtain ⟨p1, p2⟩ := p
    obtain ⟨q1, q2⟩ := q
    obtain ⟨i, j, rfl, rfl, rfl⟩ := maxM_of h3
    obtain ⟨t, rfl⟩ := hr1
    obtain ⟨u, rfl⟩ := hr2
    obtain ⟨m, news, F, N, back⟩ := R2.open
    exact max_two_N C.hh F N fun h' tk F' N' => hq _ _ ⟨_, rfl⟩ (back h' tk F' N')
  | idx ha hb ih1 ih2 =>
    intro σ τ v s Q h R hq
    obtain ⟨p, h1, h⟩ := Option.bind_eq_some_iff.mp h
    obtain ⟨q, h2, h⟩ := Option.bind_eq_some_iff.mp h
    obtain ⟨r, h3, h4⟩ := Option.map_eq_some_iff.mp h
    cases h4
    refine Subscript_ (ih1 h1 R fun y s₁ hr1 R1 => ih2 h2 R1 fun z s₂ hr2 R2 => ?_)
    obtain ⟨p1, p2⟩ := p
    obtain ⟨q1, q2⟩ := q
    rcases idxM_of h3 with ⟨l0, i, c, rfl, rfl, h0, hc, rfl⟩ | ⟨l0, i, c, e1, rfl, rfl, h0, hc, rfl⟩
    · obtain ⟨hz, t, rfl⟩ := hr1
      obtain ⟨u, rfl⟩ := hr2
      have hlt := (List.getElem?_eq_some_iff.mp hc).1
      refine item_str (fitsOf h0 (by omega) hz) (by rw [tx_len]; omega) (by rw [tx_len]; omega) (fun _ => ?_) (hb.subs _ _) (fun r => go_str _ _ _ r)
      rw [tx_item h0 hc]
      exact hq _ _ ⟨by simp, _, rfl⟩ (R2.toks _)
    · obtain ⟨hz, b, vs, rfl, hb', hs⟩ := hr1
      obtain ⟨u, rfl⟩ := hr2
      have hlt := (List.getElem?_eq_some_iff.mp hc).1
      obtain ⟨y, hy, hr⟩ := ams_at hs hc
      refine item_listL (isList_of (R2.K C) hb') h0 (by omega) hy (hq _ _ hr R2) (hb.subs _ _) (fun r => ?_)
      cases ha <;> first | rfl | exact Bool.noConfusion e1
  | slc ha hb hc ih1 ih2 ih3 =>
    intro σ τ v s Q h R hq
    obtain ⟨p, h1, h⟩ := Option.bind_eq_some_iff.mp h
    obtain ⟨q, h2, h⟩ := Option.bind_eq_some_iff.mp h
    obtain ⟨u, h3, h⟩ := Option.bind_eq_some_iff.mp h
    obtain ⟨r, h4, h5⟩ := Option.map_eq_some_iff.mp h
    cases h5
    refine Subscript_ (ih1 h1 R fun y s₁ hr1 R1 => wpAny_Slice (evalPart_some_step (ih2 h2 R1 fun z s₂ hr2 R2 => evalPart_some_step (ih3 h3 R2 fun x' s₃ hr3 R3 => evalPart_none_step ?_))))
    obtain ⟨p1, p2⟩ := p
    obtain ⟨q1, q2⟩ := q
    obtain ⟨u1, u2⟩ := u
    obtain ⟨l0, i, j, rfl, rfl, rfl, h0, rfl⟩ := slcM_of h4
    obtain ⟨hz, t, rfl⟩ := hr1
    obtain ⟨t2, rfl⟩ := hr2
    obtain ⟨t3, rfl⟩ := hr3
    obtain ⟨m, news, F, N, back⟩ := R3.open
    refine slice_strN_ss F N (fun h' t' k F' N' => ?_) (by rfl) (fun r => go_str _ _ _ r) (by rw [tx_len]; unfold sizeLine; omega)
    rw [tx_slice h0]
    exact hq _ _ ⟨by simp; omega, _, rfl⟩ (back h' k F' N')
  | slcFrom ha hb ih1 ih2 =>
    intro σ τ v s Q h R hq
    obtain ⟨p, h1, h⟩ := Option.bind_eq_some_iff.mp h
    obtain ⟨q, h2, h⟩ := Option.bind_eq_some_iff.mp h
    obtain ⟨r, h4, h5⟩ := Option.map_eq_some_iff.mp h
    cases h5
    refine Subscript_ (ih1 h1 R fun y s₁ hr1 R1 => wpAny_Slice (evalPart_some_step (ih2 h2 R1 fun z s₂ hr2 R2 => evalPart_none_step (evalPart_none_step ?_))))
    obtain ⟨p1, p2⟩ := p
    obtain ⟨q1, q2⟩ := q
    obtain ⟨l0, i, rfl, rfl, h0, rfl⟩ := slcFromM_of h4
    obtain ⟨hz, t, rfl⟩ := hr1
    obtain ⟨t2, rfl⟩ := hr2
    obtain ⟨m, news, F, N, back⟩ := R2.open
    refine slice_strN_sn F N (fun h' t' k F' N' => ?_) (by rfl) (fun r => go_str _ _ _ r) (by rw [tx_len]; unfold sizeLine; omega)
    rw [tx_from h0]
    exact hq _ _ ⟨by simp; omega, _, rfl⟩ (back h' k F' N')
  | slcTo ha hb ih1 ih2 =>
    intro σ τ v s Q h R hq
    obtain ⟨p, h1, h⟩ := Option.bind_eq_some_iff.mp h
    obtain ⟨q, h2, h⟩ := Option.bind_eq_some_iff.mp h
    obtain ⟨r, h4, h5⟩ := Option.map_eq_some_iff.mp h
    cases h5
    refine Subscript_ (ih1 h1 R fun y s₁ hr1 R1 => wpAny_Slice (evalPart_none_step (evalPart_some_step (ih2 h2 R1 fun z s₂ hr2 R2 => evalPart_none_step ?_))))
    obtain ⟨p1, p2⟩ := p
    obtain ⟨q1, q2⟩ := q
    obtain ⟨l0, i, rfl, rfl, h0, rfl⟩ := slcToM_of h4
    obtain ⟨hz, t, rfl⟩ := hr1
    obtain ⟨t2, rfl⟩ := hr2
    obtain ⟨m, news, F, N, back⟩ := R2.open
    refine slice_strN_ns F N (fun h' t' k F' N' => ?_) (by rfl) (fun r => go_str _ _ _ r) (by rw [tx_len]; unfold sizeLine; omega)
    rw [tx_to h0]
    exact hq _ _ ⟨by simp; omega, _, rfl⟩ (back h' k F' N')
  | endsw ha hb hline ih1 ih2 =>
    intro σ τ v s Q h R hq
    obtain ⟨p, h1, h⟩ := Option.bind_eq_some_iff.mp h
    obtain ⟨q, h2, h⟩ := Option.bind_eq_some_iff.mp h
    obtain ⟨r, h4, h5⟩ := Option.map_eq_some_iff.mp h
    cases h5
    obtain ⟨p1, p2⟩ := p
    obtain ⟨q1, q2⟩ := q
    obtain ⟨l0, k0, rfl, rfl, rfl⟩ := endsM_of h4
    refine Call_method1 (ha.base _) (hb.star []) hline (ih1 h1 R fun y s₁ hr1 R1 => ?_)
    obtain ⟨hz, t, rfl⟩ := hr1
    refine SB.endswith (ih2 h2 R1 fun z s₂ hr2 R2 => ?_)
    obtain ⟨hz2, t2, rfl⟩ := hr2
    refine ⟨_, _, rfl, ?_⟩
    rw [tx_ends]
    exact hq _ _ rfl R2
  | amf hl =>
    intro σ τ v s Q h R hq
    obtain ⟨r, h1, h2⟩ := Option.map_eq_some_iff.mp h
    cases h2
    obtain ⟨u, h3, h4⟩ := Option.bind_eq_some_iff.mp h1
    refine Attribute_Name_ (e_loc hk R h3 hl fun y hr => ?_)
    obtain ⟨m, F⟩ := R.fr
    have X := R.K C
    obtain ⟨a0, rfl, h5⟩ := amfM_of h4
    obtain ⟨x, d, es, n, rfl, k1, k2, ⟨t3, k3⟩, ⟨t4, k4⟩, ⟨t5, k5⟩, k6⟩ := hr
    rcases h5 with ⟨rfl, rfl⟩ | ⟨rfl, rfl⟩ | ⟨rfl, rfl⟩
    · exact get_own F C.X (InstAt.of_K X k1 k2) (k_get2 _ _) (k_dict2 _) (k_attr2 _ .s rfl).1 (k_attr2 _ .s rfl).2 k3 rfl (hq _ _ ⟨k6, _, rfl⟩ (R.toks _))
    · exact get_own F C.X (InstAt.of_K X k1 k2) (k_get2 _ _) (k_dict2 _) (k_attr2 _ .subI rfl).1 (k_attr2 _ .subI rfl).2 k4 rfl (hq _ _ ⟨_, rfl⟩ (R.toks _))
    · exact get_own F C.X (InstAt.of_K X k1 k2) (k_get2 _ _) (k_dict2 _) (k_attr2 _ .result rfl).1 (k_attr2 _ .result rfl).2 k5 rfl (hq _ _ ⟨_, rfl⟩ (R.toks _))
  | call0 hl hm hn =>
    intro σ τ v s Q h R hq
    simp only [xv1, xv2, xv3, xv4, xv5, xv6, xv7, xv8, xv9, xv10, xv11, xv12, xv13, xv14, xv15, xv16, xv17, xv18, xv19, xv20, xv21, xv22, xv23, xv24, xv25, xv26, xv27] at h
    split at h
    · rename_i ho
      have hs : selfOk σ = true := (Bool.and_eq_true_iff.mp ho).1
      refine mcall attr_self rfl hn (e_self hk R hs hl fun x d e => e_meth C R e hm ho ?_)
      refine callWith_K0 (R.K C) (k_meth _ _ hm).2.2 ?_
      have := e_call (E := E) (vals := []) (Q := Q) C hF hO R h .nil hq
      rwa [withSelf_meth hm e] at this
    · cases h
  | call1 hl hm hn ha ih1 =>
    intro σ τ v s Q h R hq
    simp only [xv1, xv2, xv3, xv4, xv5, xv6, xv7, xv8, xv9, xv10, xv11, xv12, xv13, xv14, xv15, xv16, xv17, xv18, xv19, xv20, xv21, xv22, xv23, xv24, xv25, xv26, xv27] at h
    split at h
    · rename_i ho
      obtain ⟨p, h1, h⟩ := Option.bind_eq_some_iff.mp h
      split at h
      · have hs : selfOk σ = true := (Bool.and_eq_true_iff.mp ho).1
        refine mcall attr_self (by rw [ha.star]; rfl) hn (e_self hk R hs hl fun x d e => e_meth C R e hm ho ?_)
        refine callWith_K C.X (k_meth _ _ hm).2.2 (args_cons (ih1 h1 R fun y s₁ hr1 R1 => args_nil ⟨R1.K C, ?_⟩) (ha.star [])) (ha.star [])
        have := e_call (E := E) (vals := [y]) (Q := Q) C hF hO R1 h (.cons hr1 .nil) hq
        rwa [withSelf_meth hm e] at this
      · cases h
    · cases h
  | call3 hl hm hn ha hb hc ih1 ih2 ih3 =>
    intro σ τ v s Q h R hq
    simp only [xv1, xv2, xv3, xv4, xv5, xv6, xv7, xv8, xv9, xv10, xv11, xv12, xv13, xv14, xv15, xv16, xv17, xv18, xv19, xv20, xv21, xv22, xv23, xv24, xv25, xv26, xv27] at h
    split at h
    · rename_i ho
      obtain ⟨p, h1, h⟩ := Option.bind_eq_some_iff.mp h
      obtain ⟨q, h2, h⟩ := Option.bind_eq_some_iff.mp h
      obtain ⟨u, h3, h⟩ := Option.bind_eq_some_iff.mp h
      split at h
      · have hs : selfOk σ = true := (Bool.and_eq_true_iff.mp ho).1
        refine mcall attr_self (by rw [ha.star, hb.star, hc.star]; rfl) hn (e_self hk R hs hl fun x d e => e_meth C R e hm ho ?_)
        refine callWith_K C.X (k_meth _ _ hm).2.2 (args_cons (ih1 h1 R fun y s₁ hr1 R1 => args_cons (ih2 h2 R1 fun z s₂ hr2 R2 => args_cons (ih3 h3 R2 fun x' s₃ hr3 R3 => args_nil ⟨R3.K C, ?_⟩) (hc.star [])) (hb.star _)) (ha.star _)) (ha.star _) (by rw [hb.star, hc.star]; rfl)
        have := e_call (E := E) (vals := [y, z, x']) (Q := Q) C hF hO R3 h (.cons hr1 (.cons hr2 (.cons hr3 .nil))) hq
        rwa [withSelf_meth hm e] at this
      · cases h
    · cases h
  | fn1 hl hm ha ih1 =>
    intro σ τ v s Q h R hq
    obtain ⟨p, h1, h⟩ := Option.bind_eq_some_iff.mp h
    refine Call_ (e_glob C hk R (k_def _ _ hm).1 hl (nm_debug _) ?_)
    refine callWith_K C.X (k_def _ _ hm).2 (args_cons (ih1 h1 R fun y s₁ hr1 R1 => args_nil ⟨R1.K C, ?_⟩) (ha.star [])) (ha.star [])
    have := e_call (E := E) (vals := [y]) (Q := Q) C hF hO R1 h (.cons hr1 .nil) hq
    rwa [withSelf_def (by revert hm; exact fun hm => by cases ‹Nm› <;> first | rfl | exact Bool.noConfusion hm)] at this
  | fn2 hl hm ha hb ih1 ih2 =>
    intro σ τ v s Q h R hq
    obtain ⟨p, h1, h⟩ := Option.bind_eq_some_iff.mp h
    obtain ⟨q, h2, h⟩ := Option.bind_eq_some_iff.mp h
    refine Call_ (e_glob C hk R (k_def _ _ hm).1 hl (nm_debug _) ?_)
    refine callWith_K C.X (k_def _ _ hm).2 (args_cons (ih1 h1 R fun y s₁ hr1 R1 => args_cons (ih2 h2 R1 fun z s₂ hr2 R2 => args_nil ⟨R2.K C, ?_⟩) (hb.star [])) (ha.star _)) (ha.star _) (by rw [hb.star]; rfl)
    have := e_call (E := E) (vals := [y, z]) (Q := Q) C hF hO R2 h (.cons hr1 (.cons hr2 .nil)) hq
    rwa [withSelf_def (by revert hm; exact fun hm => by cases ‹Nm› <;> first | rfl | exact Bool.noConfusion hm)] at this
  | not => intro σ τ v s Q h R hq; cases h
  | or => intro σ τ v s Q h R hq; cases h
  | and => intro σ τ v s Q h R hq; cases h
  | and3 => intro σ τ v s Q h R hq; cases h
end
end DaWalk
open PySem PySem.W PyProof.Rows DaHead
set_option Elab.async false
set_option linter.unusedVariables false
set_option linter.constructorNameAsVariable false
set_option maxRecDepth 100000
namespace DaWalk
section
variable {w : World} {hb : Heap} {me : Option (Addr × Addr)} {L : Addr} {frs₀ kp : List (Addr × Obj)} {s₀ : Shared} {σ τ : St} {s : Shared} {mean : ExcName → Option Value} {mg mb : Str → Option Value} {A : Around} {E : Value → Shared → Prop}
  {cn : Str} {sc : Scope} {a : Addr} {cd : Value} {l : List Env} {rm : Nat} {O : Orc}
theorem str_is (x : Str) (t : Tok) : (PySem.strKind pw w).is x (.str x t) = true := by
  show Value.isStrOf x (.str x t) = true
  simp [Value.isStrOf]
theorem sound_cmp {op : CmpOp} {p q : MV} {b : Bool} {y z : Value} {Q : Value → Shared → Prop} (C : Cx w hb me frs₀ kp mean mg mb A) (R : Rel w hb me L frs₀ kp s₀ σ s) (h : cmpM op p q = some b) (hy : Rep w me y p) (hz : Rep w me z q)
    (hq : ∀ s', Rel w hb me L frs₀ kp s₀ σ s' → Q (.bool b) s') : wpAny (model pw w) A (compareOp op y z) Q E s := by
  cases p with
  | int i =>
    obtain ⟨j, h1, h⟩ := bind_of h
    cases asI_of h1
    obtain ⟨t, rfl⟩ := hy
    obtain ⟨u, rfl⟩ := hz
    cases op with
    | Lt => cases h; exact P.lt_int (hq _ R)
    | LtE => cases h; exact P.le_int (hq _ R)
    | Gt => cases h; exact P.gt_int (hq _ R)
    | GtE => cases h; exact P.ge_int (hq _ R)
    | Eq => cases h; exact P.eq_int (hq _ R)
    | NotEq => cases h; exact P.ne_int (hq _ R)
    | _ => cases h
  | str l =>
    obtain ⟨_, t, rfl⟩ := hy
    cases q with
    | str k =>
      obtain ⟨_, u, rfl⟩ := hz
      cases op with
      | Eq =>
        cases h
        refine PyProof.Rows.eq_str ?_
        rw [tx_beq]; exact hq _ R
      | NotEq =>
        cases h
        refine PyProof.Rows.ne_str ?_
        rw [show (txS _ != txS _) = _ from congrArg (!·) (tx_beq _ _)]; exact hq _ R
      | _ => cases h
    | sset k =>
      obtain ⟨c, h1, h⟩ := bind_of h
      cases as1_of h1
      obtain ⟨x, X, rfl, hX, hS⟩ := hz
      obtain ⟨S, n, h1, h2⟩ := set_of (h := s.heap) hS (R.K C _ _ hX)
      cases op with
      | In =>
        cases h
        refine wpAny_inSet_of (knd := strKind pw w) (str_is _ _) rfl h1 ?_
        show Q (.bool (S (chrS _))) _
        rw [h2]; exact hq _ (R.toks _)
      | NotIn =>
        cases h
        refine wpAny_notInSet_of (knd := strKind pw w) (str_is _ _) rfl h1 ?_
        show Q (.bool (!(S (chrS _)))) _
        rw [h2]; exact hq _ (R.toks _)
      | _ => cases h
    | _ => cases h
  | _ => cases h
theorem lst_def {f : Nm} {ls : List Nat} (h : lstV f = some ls) : isDefN f = true := by
  cases f <;> first | (cases h; done) | rfl
theorem beq_sw (x c : Nat) : ([x] == [c]) = (c == x) := by
  by_cases q : x = c
  · rw [q]; exact (beq_iff_eq.mpr rfl).trans (beq_iff_eq.mpr rfl).symm
  · have h1 : ([x] == [c]) = false := Bool.eq_false_iff.mpr fun h => q (by injection (beq_iff_eq.mp h))
    have h2 : (c == x) = false := Bool.eq_false_iff.mpr fun h => q (beq_iff_eq.mp h).symm
    rw [h1, h2]
theorem any_chr (ls : List Nat) (c : Nat) : ((ls.map chrS).any fun y => y == txS [c]) = ls.contains c := by
  induction ls with
  | nil => rfl
  | cons x r ih =>
    rw [List.map_cons, List.any_cons, List.contains_cons, ih, show (chrS x == txS [c]) = (txS [x] == txS [c]) from rfl, tx_beq, beq_sw]
/-- the test of a plain expression -/
theorem plainT {e : ME} {x : Expr} (hM : Mat sc e x) (ht : isTest e = false) (C : Cx w hb me frs₀ kp mean mg mb A) (hk : sc.kind = .function) (hF : Fx A (envOf cn sc L a cd) l L frs₀ rm) (hO : OrcOk w hb me mean mg mb rm O)
    {b : Bool} {Q : Bool → Shared → Prop} (h : evT tb O e σ = some (b, τ)) (R : Rel w hb me L frs₀ kp s₀ σ s) (hq : ∀ s', Rel w hb me L frs₀ kp s₀ τ s' → Q b s') :
    wpAny (model pw w) A (isTrue x (envOf cn sc L a cd) (eval x (envOf cn sc L a cd))) Q E s := by
  have h' : (ev tb O e σ).bind (fun p => (asBool p.1).map fun r => (r, p.2)) = some (b, τ) := by
    rw [← h]; cases e <;> first | rfl | exact Bool.noConfusion ht
  obtain ⟨p, h1, h2⟩ := Option.bind_eq_some_iff.mp h'
  obtain ⟨r, h3, h4⟩ := Option.map_eq_some_iff.mp h2
  cases h4
  obtain ⟨p1, p2⟩ := p
  cases p1 <;> first | (cases h3; done) | skip
  cases h3
  refine isTrue_plain (sound_ev hM C hk hF hO h1 R fun y s' hy R' => ?_) (hM.plain ht _)
  cases hy
  exact wpAny_truthy_bool (hq _ R')
theorem sound_evT {e : ME} {x : Expr} (hM : Mat sc e x) (C : Cx w hb me frs₀ kp mean mg mb A) (hk : sc.kind = .function) (hF : Fx A (envOf cn sc L a cd) l L frs₀ rm) (hO : OrcOk w hb me mean mg mb rm O) (hL : LstOk w hb me mean mg mb rm) :
    ∀ {σ τ : St} {b : Bool} {s : Shared} {Q : Bool → Shared → Prop}, evT tb O e σ = some (b, τ) → Rel w hb me L frs₀ kp s₀ σ s → (∀ s', Rel w hb me L frs₀ kp s₀ τ s' → Q b s') →
      wpAny (model pw w) A (isTrue x (envOf cn sc L a cd) (eval x (envOf cn sc L a cd))) Q E s := by
  induction hM with
  | not ha ih =>
    intro σ τ b s Q h R hq
    obtain ⟨p, h1, h2⟩ := Option.map_eq_some_iff.mp h
    cases h2
    exact isTrue_not (ih h1 R hq)
  | or ha hb ih1 ih2 =>
    intro σ τ b s Q h R hq
    obtain ⟨p, h1, h2⟩ := Option.bind_eq_some_iff.mp h
    refine isTrue_or (ih1 h1 R fun s₁ R1 => ?_)
    obtain ⟨p1, p2⟩ := p
    cases p1
    · refine isTrue_or (ih2 h2 R1 fun s₂ R2 => ?_)
      cases b
      · exact isTrue_or_nil (hq _ R2)
      · exact hq _ R2
    · cases h2; exact hq _ R1
  | and ha hb ih1 ih2 =>
    intro σ τ b s Q h R hq
    obtain ⟨p, h1, h2⟩ := Option.bind_eq_some_iff.mp h
    refine isTrue_and (ih1 h1 R fun s₁ R1 => ?_)
    obtain ⟨p1, p2⟩ := p
    cases p1
    · cases h2; exact hq _ R1
    · refine isTrue_and (ih2 h2 R1 fun s₂ R2 => ?_)
      cases b
      · exact hq _ R2
      · exact isTrue_and_nil (hq _ R2)
  | and3 ha hb hc ih1 ih2 ih3 =>
    intro σ τ b s Q h R hq
    obtain ⟨p, h1, h2⟩ := Option.bind_eq_some_iff.mp h
    refine isTrue_and (ih1 h1 R fun s₁ R1 => ?_)
    obtain ⟨p1, p2⟩ := p
    cases p1
    · cases h2; exact hq _ R1
    · simp only [if_true] at h2
      obtain ⟨q, h3, h4⟩ := Option.bind_eq_some_iff.mp h2
      refine isTrue_and (ih2 h3 R1 fun s₂ R2 => ?_)
      obtain ⟨q1, q2⟩ := q
      cases q1
      · cases h4; exact hq _ R2
      · refine isTrue_and (ih3 h4 R2 fun s₃ R3 => ?_)
        cases b
        · exact hq _ R3
        · exact isTrue_and_nil (hq _ R3)
  | cmp ha hb hm =>
    intro σ τ b s Q h R hq
    obtain ⟨p, h1, h2⟩ := Option.bind_eq_some_iff.mp h
    obtain ⟨q, h3, h4⟩ := Option.bind_eq_some_iff.mp h2
    obtain ⟨r, h5, h6⟩ := Option.map_eq_some_iff.mp h4
    cases h6
    refine wpAny_isTrue_Compare1 (sound_ev ha C hk hF hO h1 R fun y s₁ hy R1 => sound_ev hb C hk hF hO h3 R1 fun z s₂ hz R2 => sound_cmp C R2 h5 hy hz fun s₃ R3 => wpAny_truthy_bool (hq _ R3)) hm
  | inFn ha hl =>
    intro σ τ b s Q h R hq
    obtain ⟨p, h1, h2⟩ := Option.bind_eq_some_iff.mp h
    obtain ⟨r, h5, h6⟩ := Option.map_eq_some_iff.mp h2
    cases h6
    obtain ⟨p1, p2⟩ := p
    obtain ⟨l0, h7, h5⟩ := bind_of h5
    obtain ⟨c, h8, h5⟩ := bind_of h5
    obtain ⟨ls, h7', h9⟩ := map_of h5
    subst h9
    cases asS_of h7
    cases as1_of h8
    refine wpAny_isTrue_Compare1 (sound_ev ha C hk hF hO h1 R fun y s₁ hy R1 => ?_) rfl
    obtain ⟨_, t, rfl⟩ := hy
    refine Call_ (e_glob C hk R1 (k_def _ _ (lst_def h7')).1 hl (nm_debug _) ?_)
    refine callWith_K0 (R1.K C) (k_def _ _ (lst_def h7')).2 ?_
    obtain ⟨⟨m, H, l'⟩, g, d, o⟩ := R1
    refine wpAny_call (hL _ ls h7' A L frs₀ kp m _ s₁ _ l _ C hF H fun b vs h' tk hl' hs H' => ?_)
    refine in_list_strs (s := { s₁ with heap := h', toks := tk }) hl' hs ?_
    rw [any_chr]
    exact wpAny_truthy_bool (hq _ ⟨⟨m, H', l'⟩, g, d, o⟩)
  | _ => intro σ τ b s Q h R hq; exact plainT (by constructor <;> assumption) rfl C hk hF hO h R hq
end
end DaWalk
open PySem PySem.W PyProof.Rows DaHead
set_option Elab.async false
set_option linter.unusedVariables false
set_option linter.constructorNameAsVariable false
set_option maxRecDepth 100000
namespace DaWalk
section
variable {w : World} {hb : Heap} {me : Option (Addr × Addr)} {L : Addr} {frs₀ kp : List (Addr × Obj)} {s₀ : Shared} {σ τ : St} {s : Shared} {mean : ExcName → Option Value} {mg mb : Str → Option Value} {A : Around} {E : Value → Shared → Prop}
  {cn : Str} {sc : Scope} {a : Addr} {cd : Value} {l : List Env} {rm : Nat} {O : Orc}
/-! stores -/
theorem st_loc {n : Nm} {y : Value} {v : MV} {Q : Unit → Shared → Prop} (hk : sc.kind = .function) (hl : KL sc (nm n)) (R : Rel w hb me L frs₀ kp s₀ σ s) (hr : Rep w me y v) (hq : ∀ s', Rel w hb me L frs₀ kp s₀ (setL n v σ) s' → Q () s') :
    wpAny (model pw w) A (storeName (envOf cn sc L a cd) (nm n) y) Q E s := by
  obtain ⟨⟨m, ⟨es, k, frs, F, N, S, O⟩, lo⟩, g, d, o⟩ := R
  exact stN F N (fun h' F' N' => hq _ ⟨⟨_, ⟨es, k, frs, F', N', S, O⟩, lo.put hr⟩, g, d, o⟩) hk hl
theorem st_fld {n : Nm} {x d : Addr} {y : Value} {v : MV} {Q : Unit → Shared → Prop} (C : Cx w hb me frs₀ kp mean mg mb A) (R : Rel w hb me L frs₀ kp s₀ σ s) (e : me = some (x, d)) (hf : isFld n = true) (hr : Rep w me y v) (h : setF n v σ = some τ)
    (hq : ∀ s', Rel w hb me L frs₀ kp s₀ τ s' → Q () s') : wpAny (model pw w) A (setAttr (.ref x) (nm n) y) Q E s := by
  subst e
  obtain ⟨⟨m, ⟨es, k, frs, F, N, S, O⟩, lo⟩, g, dr, o⟩ := R
  unfold setF at h
  split at h
  · obtain ⟨fl, h1, h2⟩ := Option.bind_eq_some_iff.mp h
    split at h2
    · rename_i hz
      cases h2
      have O' : FlOk w (some (x, d)) es (some fl) := by rw [← h1]; exact O
      have FO := O'.2
      have ap := Hp.apart C.side N S
      refine set_dict (es := es) (n := k) F C.X N (InstAt.of_news N (List.Mem.tail _ (List.Mem.head _)) (List.Mem.head _)) rfl (k_set _) (k_over _) (k_taker _ n hf) (k_dict _) (fld_isSome FO) rfl (Upd.head ap) ?_ fun h' F' N' => ?_
      · rw [fld_len (fld_put _ _ hr FO)]
        have := putN_len n v fl
        omega
      · exact hq _ ⟨⟨m, ⟨_, _, frs, F', N', S, ⟨rfl, fld_put _ _ hr FO⟩⟩, lo⟩, g, dr, o⟩
    · cases h2
  · cases h

/-! a kept object -/
structure Off (me : Option (Addr × Addr)) (frs₀ kp : List (Addr × Obj)) (I : Addr) : Prop where
  slf : ∀ x d, me = some (x, d) → x ≠ I ∧ d ≠ I
  kept : ∀ p ∈ kp, p.1 ≠ I
  frms : ∀ p ∈ frs₀, p.1 ≠ I
theorem selfL_addr {es : List DictEntry} {n : Nat} {p : Addr × Obj} (h : p ∈ selfL me es n) : ∃ x d, me = some (x, d) ∧ (p.1 = x ∨ p.1 = d) := by
  cases me with
  | none => exact nomatch h
  | some xd =>
    obtain ⟨x, d⟩ := xd
    rcases List.mem_cons.mp h with rfl | h
    · exact ⟨x, d, rfl, .inr rfl⟩
    · rcases List.mem_cons.mp h with rfl | h
      · exact ⟨x, d, rfl, .inl rfl⟩
      · exact nomatch h
theorem Off.all {I : Addr} (H : Off me frs₀ kp I) {es : List DictEntry} {n : Nat} {frs : List (Addr × Obj)} (S : TI.SameUp frs₀ frs) : ∀ p ∈ selfL me es n ++ (kp ++ frs), p.1 ≠ I := by
  intro p hp
  rcases List.mem_append.mp hp with h | h
  · obtain ⟨x, d, e, q | q⟩ := selfL_addr h
    · rw [q]; exact (H.slf x d e).1
    · rw [q]; exact (H.slf x d e).2
  · rcases List.mem_append.mp h with h | h
    · exact H.kept p h
    · obtain ⟨y, hy, q⟩ := S.fwd p h
      rw [q]; exact H.frms y hy
theorem Cx.more {p : Addr × Obj} (C : Cx w hb me frs₀ kp mean mg mb A) (h : TI.notDict p = true) : Cx w hb me frs₀ (p :: kp) mean mg mb A :=
  ⟨C.X, C.T, ⟨fun q hq => by
    rcases List.mem_cons.mp hq with rfl | hq
    · exact .inl h
    · exact C.side.kpn q hq, C.side.dxf⟩, C.hh⟩
/-- the ledger with a kept object in front -/
theorem mem_front {p q : Addr × Obj} {es : List DictEntry} {n : Nat} {frs : List (Addr × Obj)} : q ∈ selfL me es n ++ ((p :: kp) ++ frs) ↔ q = p ∨ q ∈ selfL me es n ++ (kp ++ frs) := by
  simp only [List.mem_append, List.mem_cons]
  constructor
  · rintro (h | (h | h) | h)
    · exact .inr (.inl h)
    · exact .inl h
    · exact .inr (.inr (.inl h))
    · exact .inr (.inr (.inr h))
  · rintro (h | h | h | h)
    · exact .inr (.inl (.inl h))
    · exact .inl h
    · exact .inr (.inl (.inr h))
    · exact .inr (.inr h)
theorem Rel.drop {p : Addr × Obj} (R : Rel w hb me L frs₀ (p :: kp) s₀ σ s) : Rel w hb me L frs₀ kp s₀ σ s := by
  obtain ⟨⟨m, ⟨es, k, frs, F, N, S, O⟩, lo⟩, g, d, o⟩ := R
  exact ⟨⟨m, ⟨es, k, frs, F, fun q hq => N q (mem_front.mpr (.inr hq)), S, O⟩, lo⟩, g, d, o⟩
theorem Rel.kept {p : Addr × Obj} (R : Rel w hb me L frs₀ (p :: kp) s₀ σ s) : s.heap.get? p.1 = some p.2 := by
  obtain ⟨⟨m, ⟨es, k, frs, F, N, S, O⟩, lo⟩, g, d, o⟩ := R
  exact (N p (mem_front.mpr (.inl rfl))).1
theorem Rel.push {o : Obj} {tk : Nat} (R : Rel w hb me L frs₀ kp s₀ σ s) (hfree : o.isFreed = false) : Rel w hb me L frs₀ ((s.heap.objs.size, o) :: kp) s₀ σ { s with heap := s.heap.push o, toks := tk } ∧ Off me frs₀ kp s.heap.objs.size := by
  obtain ⟨⟨m, ⟨es, k, frs, F, N, S, O⟩, lo⟩, g, d, os⟩ := R
  have lt : ∀ p ∈ selfL me es k ++ (kp ++ frs), p.1 ≠ s.heap.objs.size := fun p hp => Nat.ne_of_lt (Heap.lt_size (N p hp).1)
  refine ⟨⟨⟨m, ⟨es, k, frs, F.push o, fun q hq => ?_, S, O⟩, lo⟩, g, d, os⟩, ⟨fun x d e => ?_, fun p hp => lt p (List.mem_append_right _ (List.mem_append_left _ hp)), fun p hp => ?_⟩⟩
  · rcases mem_front.mp hq with rfl | hq
    · exact N.push F o hfree _ (List.mem_cons_self)
    · exact N.push F o hfree _ (List.mem_cons_of_mem _ hq)
  · subst e
    exact ⟨lt (x, instObj 403 d) (List.mem_append_left _ (List.Mem.tail _ (List.Mem.head _))), lt (d, dictOf es k) (List.mem_append_left _ (List.Mem.head _))⟩
  · obtain ⟨sl, hm⟩ := S.back p hp
    exact lt (p.1, { p.2 with slots := sl }) (List.mem_append_right _ (List.mem_append_right _ hm))
theorem Rel.upd {I : Addr} {o o' : Obj} {h' : Heap} {tk : Nat} (R : Rel w hb me L frs₀ ((I, o) :: kp) s₀ σ s) (H : Off me frs₀ kp I) (he : Heap.ExtBut I s.heap h') (ho : h'.get? I = some o') : Rel w hb me L frs₀ ((I, o') :: kp) s₀ σ { s with heap := h', toks := tk } := by
  obtain ⟨⟨m, ⟨es, k, frs, F, N, S, O⟩, lo⟩, g, d, os⟩ := R
  have hI := N (I, o) (mem_front.mpr (.inl rfl))
  refine ⟨⟨m, ⟨es, k, frs, ⟨F.ns.extBut he (Ne.symm hI.2.1), fun b ob e => he b ob (fun q => ?_) (F.keep b ob e), F.above⟩, fun q hq => ?_, S, O⟩, lo⟩, g, d, os⟩
  · have := hI.2.2
    rw [show (I, o).1 = I from rfl, ← q, e] at this
    cases this
  · rcases mem_front.mp hq with rfl | hq
    · exact ⟨ho, hI.2⟩
    · have hq' := N q (mem_front.mpr (.inr hq))
      exact ⟨he _ _ (H.all S q hq) hq'.1, hq'.2⟩
theorem Rel.over {I : Addr} {o : Obj} {h' : Heap} {tk : Nat} (R : Rel w hb me L frs₀ ((I, o) :: kp) s₀ σ s) (H : Off me frs₀ kp I) (he : Heap.ExtBut I s.heap h') : Rel w hb me L frs₀ kp s₀ σ { s with heap := h', toks := tk } := by
  obtain ⟨⟨m, ⟨es, k, frs, F, N, S, O⟩, lo⟩, g, d, os⟩ := R
  have hI := N (I, o) (mem_front.mpr (.inl rfl))
  refine ⟨⟨m, ⟨es, k, frs, ⟨F.ns.extBut he (Ne.symm hI.2.1), fun b ob e => he b ob (fun q => ?_) (F.keep b ob e), F.above⟩, fun q hq => ?_, S, O⟩, lo⟩, g, d, os⟩
  · have := hI.2.2
    rw [show (I, o).1 = I from rfl, ← q, e] at this
    cases this
  · have hq' := N q (mem_front.mpr (.inr hq))
    exact ⟨he _ _ (H.all S q hq) hq'.1, hq'.2⟩
end
end DaWalk
open PySem PySem.W PyProof.Rows DaHead
set_option Elab.async false
set_option linter.unusedVariables false
set_option linter.constructorNameAsVariable false
set_option maxRecDepth 100000
namespace DaWalk
noncomputable def OutOk (w : World) (me : Option (Addr × Addr)) : Out → Flow → Prop
  | .next, f => f = .next
  | .brk, f => f = .brk
  | .ret v, f => ∃ y, f = .ret y ∧ Rep w me y v
  | .exc _, _ => False
noncomputable def labAt (n : Nm) : Addr := [415, 428, 441].getD (idxN .lab0 n) 0
section
variable {w : World} {hb : Heap} {me : Option (Addr × Addr)} {L : Addr} {frs₀ kp : List (Addr × Obj)} {s₀ : Shared} {σ τ : St} {s : Shared} {mean : ExcName → Option Value} {mg mb : Str → Option Value} {A : Around} {E : Value → Shared → Prop}
  {cn : Str} {sc : Scope} {a : Addr} {cd : Value} {l : List Env} {rm : Nat} {O : Orc}
/-- an exception of a label's class, just made -/
noncomputable def Raised (w : World) (hb : Heap) (me : Option (Addr × Addr)) (L : Addr) (frs₀ kp : List (Addr × Obj)) (s₀ : Shared) (lb : Nm) (σ : St) (e : Value) (s' : Shared) : Prop :=
  ∃ (x : Addr) (s : Shared) (h' : Heap), e = .ref x ∧ Rel w hb me L frs₀ kp s₀ σ s ∧ Heap.MadeExcOf s.heap h' x (.ref (labAt lb)) [] ∧ s' = { s with heap := h' }
/-- what a statement's soundness says -/
noncomputable def StOk (w : World) (hb : Heap) (me : Option (Addr × Addr)) (L : Addr) (frs₀ : List (Addr × Obj)) (A : Around) (env : Env) (t : Sem Flow) (f : St → Option (Out × St)) (mean : ExcName → Option Value) (mg mb : Str → Option Value) : Prop :=
  ∀ (kp : List (Addr × Obj)) (s₀ : Shared) (E : Value → Shared → Prop) (σ τ : St) (out : Out) (s : Shared) (Q : Flow → Shared → Prop), Cx w hb me frs₀ kp mean mg mb A → f σ = some (out, τ) → Rel w hb me L frs₀ kp s₀ σ s →
    (∀ fl s', OutOk w me out fl → Rel w hb me L frs₀ kp s₀ τ s' → Q fl s') → (∀ lb e s', out = .exc lb → Raised w hb me L frs₀ kp s₀ lb τ e s' → E e s') → (∀ hd, PassesOwnAt (model pw w) (A.mark hd) A env E) →
    wpAny (model pw w) A t Q E s
theorem Raised.drop {p : Addr × Obj} {lb : Nm} {e : Value} {s' : Shared} (R : Raised w hb me L frs₀ (p :: kp) s₀ lb σ e s') : Raised w hb me L frs₀ kp s₀ lb σ e s' := by
  obtain ⟨x, s, h', e1, R', H, e2⟩ := R
  exact ⟨x, s, h', e1, R'.drop, H, e2⟩
theorem passes_self {env : Env} (hp : ∀ hd, PassesOwnAt (model pw w) (A.mark hd) A env E) : PassesOwnAt (model pw w) A A env E := hp none
/-- a loop's own postcondition -/
noncomputable abbrev LoopR (w : World) (A : Around) (env : Env) (E : Value → Shared → Prop) (Q : Flow → Shared → Prop) : Result → Shared → Prop := fun r s' => match r with
  | .ok f => Q f s'
  | .error e => cameBackBy (model pw w) A env E e s'
noncomputable def robj (x left step : Int) : Obj := { cls := .type "range_iterator", dict := none, data := .fields #[rawInt x, rawInt left, rawInt step], slots := #[] }
noncomputable def rangeV (x step : Int) : Nat → List MV
  | 0 => []
  | k + 1 => .int x :: rangeV (x + step) step k
theorem loop_range {n : Nm} {np : Pos} {body : List Stmt} {b : St → Option (Out × St)} {I : Addr} {step : Int} {out : Out} {Q : Flow → Shared → Prop} (hk : sc.kind = .function) (hl : KL sc (nm n))
    (hb' : StOk w hb me L frs₀ A (envOf cn sc L a cd) (execs body (envOf cn sc L a cd)) b mean mg mb) (C : Cx w hb me frs₀ kp mean mg mb A) (hI : Off me frs₀ kp I)
    (hq : ∀ fl s', OutOk w me out fl → Rel w hb me L frs₀ kp s₀ τ s' → Q fl s') (he : ∀ lb e s', out = .exc lb → Raised w hb me L frs₀ kp s₀ lb τ e s' → E e s') (hp : ∀ hd, PassesOwnAt (model pw w) (A.mark hd) A (envOf cn sc L a cd) E)
    (x : Int) (k : Nat) (h : loopV n b (rangeV x step k) σ = some (out, τ)) (R : Rel w hb me L frs₀ ((I, robj x k step) :: kp) s₀ σ s) :
    codeAny (model pw w) A (.forLoop (.Name (nm n) np) (.ref I) body [] (envOf cn sc L a cd)) (LoopR w A (envOf cn sc L a cd) E Q) s := by
  refine codeAny_forLoop (fun j s' => ∃ σ' x, loopV n b (rangeV x step j) σ' = some (out, τ) ∧ Rel w hb me L frs₀ ((I, robj x j step) :: kp) s₀ σ' s') (fun j s' hJ => ?_) k ⟨σ, x, h, R⟩
  obtain ⟨σ', x', h', R'⟩ := hJ
  have hit : IsRangeIter s'.heap I x' j step := R'.kept
  cases j with
  | zero =>
    simp only [rangeV, loopV] at h'
    cases h'
    exact wpAny_pyNext_range_end C.hh hit (by omega) fun h₁ he₁ => wpAny_execs_nil (hq _ _ rfl (R'.over hI he₁))
  | succ j =>
    simp only [rangeV, loopV] at h'
    obtain ⟨q, h1, h2⟩ := Option.bind_eq_some_iff.mp h'
    refine wpAny_pyNext_range_item hit (by omega) fun h₁ hit₁ hs₁ => ?_
    have e1 : ((j + 1 : Nat) : Int) - 1 = (j : Int) := by omega
    rw [e1] at hit₁
    have R₁ : Rel w hb me L frs₀ ((I, robj (x' + step) j step) :: kp) s₀ σ' { s' with heap := h₁, toks := s'.toks + 1 } := R'.upd hI hs₁.extBut hit₁
    refine wpAny_assign_Name (st_loc hk hl R₁ (v := .int x') ⟨_, rfl⟩ fun s₂ R₂ => ?_)
    obtain ⟨q1, q2⟩ := q
    refine wpAny_passesOwnAt (passes_self hp) (hb' _ s₀ E _ q2 q1 s₂ _ (C.more (p := (I, robj (x' + step) j step)) rfl) h1 R₂ (fun fl s₃ ho R₃ => ?_) (fun lb e s₃ ho R₃ => ?_) hp)
    · cases q1 with
      | next => cases ho; exact ⟨j, Nat.lt_succ_self j, q2, x' + step, h2, R₃⟩
      | brk => cases ho; cases h2; exact hq _ _ rfl R₃.drop
      | ret v => obtain ⟨y, rfl, hr⟩ := ho; cases h2; exact hq _ _ ⟨y, rfl, hr⟩ R₃.drop
      | exc lb => exact ho.elim
    · subst ho
      cases h2
      exact he lb e s₃ rfl R₃.drop
theorem loop_list {n : Nm} {np : Pos} {body : List Stmt} {b : St → Option (Out × St)} {I B : Addr} {vs : List Value} {ls : List (List Nat)} {out : Out} {Q : Flow → Shared → Prop} (hk : sc.kind = .function) (hl : KL sc (nm n))
    (hb' : StOk w hb me L frs₀ A (envOf cn sc L a cd) (execs body (envOf cn sc L a cd)) b mean mg mb) (C : Cx w hb me frs₀ kp mean mg mb A) (hI : Off me frs₀ kp I)
    (hq : ∀ fl s', OutOk w me out fl → Rel w hb me L frs₀ kp s₀ τ s' → Q fl s') (he : ∀ lb e s', out = .exc lb → Raised w hb me L frs₀ kp s₀ lb τ e s' → E e s') (hp : ∀ hd, PassesOwnAt (model pw w) (A.mark hd) A (envOf cn sc L a cd) E)
    (hB : (KF w.params).lookup B = some (listObj vs)) (hs : StrsAre vs (ls.map txS)) (hz : ∀ x ∈ ls, x.length ≤ 1000) (o : Obj) (i : Nat) (hi0 : i ≤ ls.length) (ho : o.cls = .type "list_iterator" ∧ o.data = .fields #[.ref B, .int i 0])
    (h : loopV n b ((ls.drop i).map .str) σ = some (out, τ)) (R : Rel w hb me L frs₀ ((I, o) :: kp) s₀ σ s) :
    codeAny (model pw w) A (.forLoop (.Name (nm n) np) (.ref I) body [] (envOf cn sc L a cd)) (LoopR w A (envOf cn sc L a cd) E Q) s := by
  refine codeAny_forLoop (fun j s' => ∃ σ' i o, j = ls.length + 1 - i ∧ i ≤ ls.length ∧ (o.cls = .type "list_iterator" ∧ o.data = .fields #[.ref B, .int i 0]) ∧ loopV n b ((ls.drop i).map .str) σ' = some (out, τ) ∧ Rel w hb me L frs₀ ((I, o) :: kp) s₀ σ' s') (fun j s' hJ => ?_) (ls.length + 1 - i) ?_
  · obtain ⟨σ', i, o, rfl, hi, ho, h', R'⟩ := hJ
    have hit : s'.heap.IsListIter I B i := ⟨o, R'.kept, ho⟩
    have hlst := isList_of (R'.K (C.more (p := (I, o)) (by unfold TI.notDict; rw [ho.2]))) hB
    by_cases hlt : i < ls.length
    · have hx : ls[i]? = some ls[i] := List.getElem?_eq_getElem hlt
      have hd : ls.drop i = ls[i] :: ls.drop (i + 1) := List.drop_eq_getElem_cons hlt
      rw [hd] at h'
      simp only [List.map_cons, loopV] at h'
      obtain ⟨q, h1, h2⟩ := Option.bind_eq_some_iff.mp h'
      obtain ⟨t, ht⟩ := hs.at (j := i) (y := txS ls[i]) (by rw [List.getElem?_map, hx]; rfl)
      refine wpAny_pyNext_list_item hit hlst (x := .str (txS ls[i]) t) (by simpa using ht) fun h₁ hit₁ hs₁ => ?_
      obtain ⟨o₁, ho₁, hc₁⟩ := hit₁
      have R₁ : Rel w hb me L frs₀ ((I, o₁) :: kp) s₀ σ' { s' with heap := h₁, toks := s'.toks } := R'.upd hI hs₁.extBut ho₁
      refine wpAny_assign_Name (st_loc hk hl R₁ (v := .str ls[i]) ⟨hz _ (List.getElem_mem hlt), _, rfl⟩ fun s₂ R₂ => ?_)
      obtain ⟨q1, q2⟩ := q
      refine wpAny_passesOwnAt (passes_self hp) (hb' _ s₀ E _ q2 q1 s₂ _ (C.more (p := (I, o₁)) (by unfold TI.notDict; rw [hc₁.2])) h1 R₂ (fun fl s₃ hf R₃ => ?_) (fun lb e s₃ hf R₃ => ?_) hp)
      · cases q1 with
        | next => cases hf; exact ⟨ls.length + 1 - (i + 1), by omega, q2, i + 1, o₁, rfl, hlt, hc₁, h2, R₃⟩
        | brk => cases hf; cases h2; exact hq _ _ rfl R₃.drop
        | ret v => obtain ⟨y, rfl, hr⟩ := hf; cases h2; exact hq _ _ ⟨y, rfl, hr⟩ R₃.drop
        | exc lb => exact hf.elim
      · subst hf
        cases h2
        exact he lb e s₃ rfl R₃.drop
    · have e0 : ls.drop i = [] := List.drop_eq_nil_of_le (by omega)
      rw [e0] at h'
      simp only [List.map_nil, loopV] at h'
      cases h'
      have hn : vs.toArray[i]? = none := by
        have : vs.length = ls.length := by rw [hs.len_eq, List.length_map]
        simp; omega
      exact wpAny_pyNext_list_end C.hh hit hlst hn fun h₁ he₁ => wpAny_execs_nil (hq _ _ rfl (R'.over (tk := s'.toks) hI he₁))
  · exact ⟨σ, i, o, rfl, hi0, ho, h, R⟩
end
end DaWalk
open PySem PySem.W PyProof.Rows DaHead
set_option Elab.async false
set_option linter.unusedVariables false
set_option linter.constructorNameAsVariable false
set_option maxRecDepth 100000
namespace DaWalk
noncomputable abbrev bmE : List Value := [.type "Exception", .type "BaseException", .type "object"]
theorem k_lab (P : Params) (n : Nm) (h : isLab n = true) : nsIn (KF P) mainGlobals (nm n) = some (some (.ref (labAt n))) ∧ excIn (KF P) (labAt n) bmE "Exception.__new__" = true := by
  cases n <;> first | exact Bool.noConfusion h | exact ⟨by kernel_rfl, by kernel_rfl⟩
section
variable {w : World} {hb : Heap} {me : Option (Addr × Addr)} {L : Addr} {frs₀ kp : List (Addr × Obj)} {s₀ : Shared} {σ τ : St} {s : Shared} {mean : ExcName → Option Value} {mg mb : Str → Option Value} {A : Around} {E : Value → Shared → Prop}
  {cn : Str} {sc : Scope} {a : Addr} {cd : Value} {l : List Env} {rm : Nat} {O : Orc}
/-- frames up to slots, the rest as it was -/
theorem rel_slots {h h' : Heap} {m : Str → Option Value} {es : List DictEntry} {k : Nat} {frs : List (Addr × Obj)} (C : Cx w hb me frs₀ kp mean mg mb A) (Fs : TI.Frs l frs) (F : Fr hb L h m) (N : News hb L h (selfL me es k ++ (kp ++ frs))) (S : TI.SameUp frs₀ frs)
    (st : ∀ b o, b ∉ L :: frs.map (·.1) → h.get? b = some o → h'.get? b = some o) (sl : ∀ b o, h.get? b = some o → (∃ es ep, o.data = .dict es ep) → ∃ sl, h'.get? b = some { o with slots := sl }) :
    ∃ frs', Fr hb L h' m ∧ News hb L h' (selfL me es k ++ (kp ++ frs')) ∧ TI.SameUp frs frs' := by
  obtain ⟨oL, esL, ep, hL, hLd, hLk, hLf⟩ := F.ns
  obtain ⟨slL, hL'⟩ := sl L oL hL ⟨esL, ep, hLd⟩
  have hfr : ∀ p ∈ frs, p ∈ selfL me es k ++ (kp ++ frs) := fun p hp => List.mem_append_right _ (List.mem_append_right _ hp)
  obtain ⟨frs', SU, ht⟩ := TI.sameUp_of (h' := h') fun p hp => sl p.1 p.2 (N p (hfr p hp)).1 (Fs.dict p hp)
  have keepO : ∀ p ∈ selfL me es k ++ kp, p.1 ∉ L :: frs.map (·.1) := by
    intro p hp hm
    have hpm : p ∈ selfL me es k ++ (kp ++ frs) := by
      rcases List.mem_append.mp hp with h1 | h1
      · exact List.mem_append_left _ h1
      · exact List.mem_append_right _ (List.mem_append_left _ h1)
    rcases List.mem_cons.mp hm with q | hm
    · exact (N p hpm).2.1 q
    · obtain ⟨y, hy, q⟩ := List.mem_map.mp hm
      have q' : y.1 = p.1 := q
      have hy1 := (N y (hfr y hy)).1
      have hp1 := (N p hpm).1
      obtain ⟨e1, e2, hyd⟩ := Fs.dict y hy
      rcases List.mem_append.mp hp with h1 | h1
      · obtain ⟨x0, d0, e0, q0⟩ := selfL_addr h1
        subst e0
        rcases List.mem_cons.mp h1 with rfl | h1
        · obtain ⟨z, hz, qz⟩ := S.fwd y hy
          exact C.side.dxf x0 d0 rfl z hz (by rw [← qz]; exact q')
        · rcases List.mem_cons.mp h1 with rfl | h1
          · rw [q', hp1] at hy1
            have := Option.some.inj hy1
            rw [← this] at hyd
            cases hyd
          · exact nomatch h1
      · rw [q', hp1] at hy1
        rcases C.side.kpn p h1 with k | k
        · exact TI.notDict_ne k (by rw [Option.some.inj hy1]; exact hyd)
        · obtain ⟨z, hz, qz⟩ := S.fwd y hy
          exact k.2 z hz (qz.symm.trans q')
  refine ⟨frs', ⟨⟨_, esL, ep, hL', hLd, hLk, hLf⟩, fun b o e => st b o (TI.base_apart F N hfr e) (F.keep b o e), F.above⟩, fun p hp => ?_, SU⟩
  have old : p ∈ selfL me es k ++ kp → h'.get? p.1 = some p.2 ∧ p.1 ≠ L ∧ hb.get? p.1 = none := fun hp => by
    have hpm : p ∈ selfL me es k ++ (kp ++ frs) := by
      rcases List.mem_append.mp hp with h1 | h1
      · exact List.mem_append_left _ h1
      · exact List.mem_append_right _ (List.mem_append_left _ h1)
    exact ⟨st _ _ (keepO p hp) (N p hpm).1, (N p hpm).2⟩
  rcases List.mem_append.mp hp with h1 | h1
  · exact old (List.mem_append_left _ h1)
  · rcases List.mem_append.mp h1 with h1 | h1
    · exact old (List.mem_append_right _ h1)
    · obtain ⟨y, hy, q⟩ := SU.fwd p h1
      have := N y (hfr y hy)
      exact ⟨ht p h1, by rw [q]; exact this.2.1, by rw [q]; exact this.2.2⟩
theorem caught {lb : Nm} {e : Value} {s' : Shared} {np pp hpos : Pos} {Q : Flow → Shared → Prop} (C : Cx w hb me frs₀ kp mean mg mb A) (hk : sc.kind = .function) (hF : Fx A (envOf cn sc L a cd) l L frs₀ rm) (hlab : isLab lb = true) (hg : KG sc (nm lb))
    (R : Raised w hb me L frs₀ kp s₀ lb τ e s') (hq : ∀ s'', Rel w hb me L frs₀ kp s₀ τ s'' → Q .next s'') (hp : ∀ hd, PassesOwnAt (model pw w) (A.mark hd) A (envOf cn sc L a cd) E) :
    wpAny (model pw w) A (noteFrame e (envOf cn sc L a cd)) (fun _ s₂ => wpAny (model pw w) A (setFlight e none) (fun _ s₃ => wpAny (model pw w) A (handleBy e (envOf cn sc L a cd) [.ExceptHandler (some (.Name (nm lb) np)) none [.Pass pp] hpos]) Q E s₃) E s₂) E s' := by
  obtain ⟨x, s, h', rfl, R, M, rfl⟩ := R
  obtain ⟨⟨m, ⟨es, k, frs, F, N, S, O⟩, lo⟩, g, d, os⟩ := R
  have Fs := hF.frs.up S
  have hfr : ∀ p ∈ frs, p ∈ selfL me es k ++ (kp ++ frs) := fun p hp => List.mem_append_right _ (List.mem_append_right _ hp)
  obtain ⟨t, he, hnt, hte⟩ := M.there
  obtain ⟨hff, hNs, _⟩ := TI.frames_at (name := cn) (scope := sc) (a := a) (cd := cd) (h' := h') (base := TI.gone s.heap (L :: frs.map (·.1))) hk Fs F N hfr (fun b o hb' => ⟨o.slots, M.keeps b o hb'⟩) fun b hm => TI.gone_none hm
  unfold noteFrame
  simp only [show (envOf cn sc L a cd).frame = some L from rfl]
  refine wpAny_bind (wpAny_field (s := { s with heap := h' }) he rfl (x := .none) rfl ?_)
  rw [if_neg (by decide)]
  refine wpAny_entryW (s := { s with heap := h' }) (a0 := .ref t) hF.fr hff rfl he (fun b o eb => M.keeps b o (TI.gone_some eb).2) (TI.none_of (fun b o eb => (TI.gone_some eb).2) M.new) rfl (by show 1 < 6; decide) rfl fun h₂ hN => ?_
  obtain ⟨k1, k2, k3, k4⟩ := hN
  refine wpAny_setFlight_noneW (s := { s with heap := h₂ }) k1 k2 k3 fun h₃ j1 j2 j3 j4 => ?_
  have sl₃ : ∀ b o, s.heap.get? b = some o → (∃ es ep, o.data = .dict es ep) → ∃ sl, h₃.get? b = some { o with slots := sl } := by
    rintro b o e ⟨e1, e2, hd⟩
    obtain ⟨sl, hs⟩ := k4 b o (M.keeps b o e) fun vs q => by rw [hd] at q; cases q
    exact ⟨sl, j4 b _ hs fun vs q => by rw [show ({ o with slots := sl } : Obj).data = o.data from rfl, hd] at q; cases q⟩
  obtain ⟨frs₃, F₃, N₃, S₃⟩ := rel_slots C Fs F N S (fun b o hn e => j1 b o ((TI.gone_get hn).trans e)) sl₃
  obtain ⟨ob, hob, hobc⟩ : ∃ ob, h₃.get? x = some ob ∧ ob.cls = .ref (labAt lb) := by
    obtain ⟨oe, _, _, _, _, ho, ⟨hc, _⟩, _⟩ := j3
    exact ⟨oe, ho, hc⟩
  obtain ⟨ex, qx⟩ := k_lab w.params lb hlab
  refine wpAny_handleBy_cons (codeAny_handlers_test (name_K (s := { s with heap := h₃ }) F₃ C.X (topRead_of C.T) ex ?_ hk hg (nm_debug lb))) (by intro q; cases q)
  obtain ⟨bm, Nn, nm', qn, bs, hdct, sn, sub, ab, col, dd, k0, k1', k2', k3', k5, mN, hC, hN', hni, TL⟩ := ((own_of_in C.X (topRead_of C.T) ex qx).keeps F₃.keep).obj
  refine wpAny_excMatches_sub_self hC hob hobc (TL.hasType (by rfl)) (codeAny_handlers_suite ?_)
  refine wpAny_setFlight_noneW (s := { s with heap := h₃ }) j1 j2 j3 fun h₄ i1 i2 i3 i4 => ?_
  have sl₄ : ∀ b o, s.heap.get? b = some o → (∃ es ep, o.data = .dict es ep) → ∃ sl, h₄.get? b = some { o with slots := sl } := by
    rintro b o e ⟨e1, e2, hd⟩
    obtain ⟨sl, hs⟩ := sl₃ b o e ⟨e1, e2, hd⟩
    exact ⟨sl, i4 b _ hs fun vs q => by rw [show ({ o with slots := sl } : Obj).data = o.data from rfl, hd] at q; cases q⟩
  obtain ⟨frs₄, F₄, N₄, S₄⟩ := rel_slots C Fs F N S (fun b o hn e => i1 b o ((TI.gone_get hn).trans e)) sl₄
  refine wpAny_passesOwnAt (hp (some (.ref x))) ?_
  exact wpAny_execs_cons (wpAny_Pass (wpAny_execs_nil (hq _ ⟨⟨m, ⟨es, k, frs₄, F₄, N₄, S.trans S₄, O⟩, lo⟩, g, d, os⟩)))
/-- raising a label -/
theorem raised {lb : Nm} {np cpos pos : Pos} {Q : Flow → Shared → Prop} (C : Cx w hb me frs₀ kp mean mg mb A) (hk : sc.kind = .function) (hlab : isLab lb = true) (hg : KG sc (nm lb)) (R : Rel w hb me L frs₀ kp s₀ σ s)
    (he : ∀ e s', Raised w hb me L frs₀ kp s₀ lb σ e s' → E e s') : wpAny (model pw w) A (exec (.Raise (some (.Call (.Name (nm lb) np) [] [] cpos)) none pos) (envOf cn sc L a cd)) Q E s := by
  obtain ⟨m, F⟩ := R.fr
  obtain ⟨ex, qx⟩ := k_lab w.params lb hlab
  exact Raise_own0 F C.T.g (own_of_in C.X (topRead_of C.T) ex qx) PySem.F.excBase_Exception C.hh (fun h' e M => he _ _ ⟨e, s, h', rfl, R, M, rfl⟩) hk hg (nm_debug lb)
end
end DaWalk
open PySem PySem.W PyProof.Rows DaHead
set_option Elab.async false
set_option linter.unusedVariables false
set_option linter.constructorNameAsVariable false
set_option maxRecDepth 100000
namespace DaWalk
theorem upV_is : ∀ (k i : Nat), upV i k = rangeV i 1 k
  | 0, _ => rfl
  | k + 1, i => by
    show MV.int i :: upV (i + 1) k = MV.int i :: rangeV ((i : Int) + 1) 1 k
    rw [upV_is k (i + 1)]; rfl
theorem downV_is : ∀ (k : Nat), downV k = rangeV ((k : Int) - 1) (-1) k
  | 0 => rfl
  | k + 1 => by
    show MV.int k :: downV k = MV.int (((k + 1 : Nat) : Int) - 1) :: rangeV (((k + 1 : Nat) : Int) - 1 + -1) (-1) k
    rw [downV_is k]
    have e1 : ((k + 1 : Nat) : Int) - 1 = (k : Int) := by omega
    rw [e1]; rfl
theorem size_up (a : Int) : Builtin.Range.rangeSize 0 a 1 = (a.toNat : Int) := by rw [rangeSize_one]; split <;> omega
theorem size_down (a : Int) : Builtin.Range.rangeSize a (-1) (-1) = ((a + 1).toNat : Int) := by
  unfold Builtin.Range.rangeSize
  rw [if_neg (by decide)]
  have e : (-(-1 : Int)) = 1 := by decide
  rw [e, Int.ediv_one]
  split <;> omega
theorem small_up {a : Int} (h1 : a < 1000) (h2 : -1000 < a) : Builtin.Range.small 0 a 1 = true := small_one (by omega) (by omega) (by omega) (by omega)
theorem small_down {a : Int} (h1 : a < 1000) (h2 : -1000 < a) : Builtin.Range.small a (-1) (-1) = true := by
  unfold Builtin.Range.small
  rw [size_down]
  simp only [Builtin.Range.rangeFitsLong, Bool.and_eq_true, Bool.or_eq_true, decide_eq_true_eq, beq_iff_eq]
  refine ⟨⟨⟨⟨by omega, by omega⟩, by omega⟩, by omega⟩, .inr ?_⟩
  rw [if_neg (by decide)]
  simp only [Bool.and_eq_true, decide_eq_true_eq]
  omega
theorem rep_int {w : World} {me : Option (Addr × Addr)} (i : Int) (t : Tok) : Rep w me (.int i t) (.int i) := ⟨t, rfl⟩
theorem rep_str {w : World} {me : Option (Addr × Addr)} {l : List Nat} (t : Tok) (h : l.length ≤ 1000) : Rep w me (.str (txS l) t) (.str l) := ⟨h, t, rfl⟩
section
variable {w : World} {hb : Heap} {me : Option (Addr × Addr)} {L : Addr} {frs₀ : List (Addr × Obj)} {mean : ExcName → Option Value} {mg mb : Str → Option Value} {A : Around}
  {cn : Str} {sc : Scope} {a : Addr} {cd : Value} {l : List Env} {rm : Nat} {O : Orc}
mutual
theorem sound1 (hk : sc.kind = .function) (hF : Fx A (envOf cn sc L a cd) l L frs₀ rm) (hO : OrcOk w hb me mean mg mb rm O) (hL : LstOk w hb me mean mg mb rm) : ∀ (x : M1) {st : Stmt}, Mat1 sc x st →
    StOk w hb me L frs₀ A (envOf cn sc L a cd) (exec st (envOf cn sc L a cd)) (ex1 tb O x) mean mg mb
  | .asgL n e, st, hM => by
    intro kp s₀ E σ τ out s Q C h R hq he hp
    cases hM with | asgL hl hv =>
    simp only [xs1, xs2, xs3, xs4, xs5, xs6, xs7, xs8, xs9, xs10, xs11, xs12, xs13, xs14, xs15, xs16, xs17] at h
    obtain ⟨p, h1, h2⟩ := Option.map_eq_some_iff.mp h
    cases h2
    exact wpAny_Assign_Name (sound_ev hv C hk hF hO h1 R fun y s₁ hr R₁ => st_loc hk hl R₁ hr fun s₂ R₂ => hq _ _ rfl R₂) (hv.swaps _ _)
  | .asgF n e, st, hM => by
    intro kp s₀ E σ τ out s Q C h R hq he hp
    cases hM with | asgF hl hf hv =>
    simp only [xs1, xs2, xs3, xs4, xs5, xs6, xs7, xs8, xs9, xs10, xs11, xs12, xs13, xs14, xs15, xs16, xs17] at h
    obtain ⟨p, h1, h2⟩ := Option.bind_eq_some_iff.mp h
    obtain ⟨τ', h3, h4⟩ := Option.map_eq_some_iff.mp h2
    cases h4
    have hs : selfOk p.2 = true := by
      unfold setF at h3
      split at h3
      · assumption
      · cases h3
    exact plainObj_wpAny_Assign_Attribute (sound_ev hv C hk hF hO h1 R fun y s₁ hr R₁ => e_self hk R₁ hs hl fun x d e => st_fld C R₁ e hf hr h3 fun s₂ R₂ => hq _ _ rfl R₂) (hv.swaps _ _)
  | .addL n e, st, hM => by
    intro kp s₀ E σ τ out s Q C h R hq he hp
    cases hM with | addL hl hv =>
    simp only [xs1, xs2, xs3, xs4, xs5, xs6, xs7, xs8, xs9, xs10, xs11, xs12, xs13, xs14, xs15, xs16, xs17] at h
    obtain ⟨o, h0, h⟩ := Option.bind_eq_some_iff.mp h
    obtain ⟨p, h1, h2⟩ := Option.bind_eq_some_iff.mp h
    obtain ⟨r, h3, h4⟩ := Option.map_eq_some_iff.mp h2
    cases h4
    obtain ⟨m, y0, F, hy0, hr0⟩ := R.getL h0
    refine wpAny_AugAssign_Name (ldn F hy0 (sound_ev hv C hk hF hO h1 R fun y s₁ hr R₁ => ?_) hk hl)
    obtain ⟨p1, p2⟩ := p
    obtain ⟨i, j, rfl, rfl, rfl⟩ := addI_of h3
    obtain ⟨t, rfl⟩ := hr0
    obtain ⟨u, rfl⟩ := hr
    exact P.iadd_int (st_loc hk hl (R₁.toks _) (rep_int _ _) fun s₂ R₂ => hq _ _ rfl R₂)
  | .addF n e, st, hM => by
    intro kp s₀ E σ τ out s Q C h R hq he hp
    cases hM with | addF hl hf hv =>
    simp only [xs1, xs2, xs3, xs4, xs5, xs6, xs7, xs8, xs9, xs10, xs11, xs12, xs13, xs14, xs15, xs16, xs17] at h
    obtain ⟨o, h0, h⟩ := Option.bind_eq_some_iff.mp h
    obtain ⟨p, h1, h2⟩ := Option.bind_eq_some_iff.mp h
    obtain ⟨r, h3, h4⟩ := Option.bind_eq_some_iff.mp h2
    obtain ⟨τ', h5, h6⟩ := Option.map_eq_some_iff.mp h4
    cases h6
    refine wpAny_AugAssign_AttributeAny ?_
    have h0' := h0
    unfold getF at h0
    split at h0
    · rename_i hs
      refine e_self hk R hs hl fun x d e => ?_
      subst e
      obtain ⟨⟨m, H, lo⟩, g, dr, os⟩ := R
      obtain ⟨es, k, fl, e1, I, FO⟩ := H.inst
      rw [e1] at h0
      obtain ⟨y0, hy0, hr0⟩ := fld_get FO h0
      refine get_own H.fr C.X I (k_get _ n) (k_dict _) (k_attr _ n hf).1 (k_attr _ n hf).2 hy0 (rep_handed hr0) ?_
      refine sound_ev hv C hk hF hO h1 (s := { s with toks := s.toks + 1 }) ⟨⟨m, H, lo⟩, g, dr, os⟩ fun y s₁ hr R₁ => ?_
      obtain ⟨p1, p2⟩ := p
      obtain ⟨i, j, rfl, rfl, rfl⟩ := addI_of h3
      obtain ⟨t, rfl⟩ := hr0
      obtain ⟨u, rfl⟩ := hr
      exact P.iadd_int (st_fld C (R₁.toks _) rfl hf (rep_int _ _) h5 fun s₂ R₂ => hq _ _ rfl R₂)
    · cases h0
  | .subF n e, st, hM => by
    intro kp s₀ E σ τ out s Q C h R hq he hp
    cases hM with | subF hl hf hv =>
    simp only [xs1, xs2, xs3, xs4, xs5, xs6, xs7, xs8, xs9, xs10, xs11, xs12, xs13, xs14, xs15, xs16, xs17] at h
    obtain ⟨o, h0, h⟩ := Option.bind_eq_some_iff.mp h
    obtain ⟨p, h1, h2⟩ := Option.bind_eq_some_iff.mp h
    obtain ⟨r, h3, h4⟩ := Option.bind_eq_some_iff.mp h2
    obtain ⟨τ', h5, h6⟩ := Option.map_eq_some_iff.mp h4
    cases h6
    refine wpAny_AugAssign_AttributeAny ?_
    unfold getF at h0
    split at h0
    · rename_i hs
      refine e_self hk R hs hl fun x d e => ?_
      subst e
      obtain ⟨⟨m, H, lo⟩, g, dr, os⟩ := R
      obtain ⟨es, k, fl, e1, I, FO⟩ := H.inst
      rw [e1] at h0
      obtain ⟨y0, hy0, hr0⟩ := fld_get FO h0
      refine get_own H.fr C.X I (k_get _ n) (k_dict _) (k_attr _ n hf).1 (k_attr _ n hf).2 hy0 (rep_handed hr0) ?_
      refine sound_ev hv C hk hF hO h1 (s := { s with toks := s.toks + 1 }) ⟨⟨m, H, lo⟩, g, dr, os⟩ fun y s₁ hr R₁ => ?_
      obtain ⟨p1, p2⟩ := p
      obtain ⟨i, j, rfl, rfl, rfl⟩ := subM_of h3
      obtain ⟨t, rfl⟩ := hr0
      obtain ⟨u, rfl⟩ := hr
      exact P.isub_int (st_fld C (R₁.toks _) rfl hf (rep_int _ _) h5 fun s₂ R₂ => hq _ _ rfl R₂)
    · cases h0
  | .ifs t x y, st, hM => by
    intro kp s₀ E σ τ out s Q C h R hq he hp
    cases hM with | ifs ht hx hy =>
    simp only [xs1, xs2, xs3, xs4, xs5, xs6, xs7, xs8, xs9, xs10, xs11, xs12, xs13, xs14, xs15, xs16, xs17] at h
    obtain ⟨p, h1, h2⟩ := Option.bind_eq_some_iff.mp h
    refine wpAny_If (sound_evT ht C hk hF hO hL h1 R fun s₁ R₁ => ?_)
    obtain ⟨p1, p2⟩ := p
    cases p1
    · exact soundS hk hF hO hL y hy kp s₀ E p2 τ out s₁ Q C h2 R₁ hq he hp
    · exact soundS hk hF hO hL x hx kp s₀ E p2 τ out s₁ Q C h2 R₁ hq he hp
  | .whil t b, st, hM => by
    intro kp s₀ E σ τ out s Q C h R hq he hp
    cases hM with | whil ht hb' =>
    simp only [xs1, xs2, xs3, xs4, xs5, xs6, xs7, xs8, xs9, xs10, xs11, xs12, xs13, xs14, xs15, xs16, xs17] at h
    refine wpAny_While (codeAny_whileLoop (R := LoopR w A _ E Q) (fun n s' => ∃ σ', Rel w hb me L frs₀ kp s₀ σ' s' ∧ loopW (evT tb O t) (exs tb O b) n σ' = some (out, τ)) (fun n s' hI => ?_) turnsMax ⟨σ, R, h⟩)
    obtain ⟨σ', R', h'⟩ := hI
    cases n with
    | zero => cases h'
    | succ n =>
      simp only [loopW] at h'
      obtain ⟨p, h1, h2⟩ := Option.bind_eq_some_iff.mp h'
      refine wpAny_passesOwnAt (passes_self hp) (sound_evT ht C hk hF hO hL h1 R' fun s₁ R₁ => ?_)
      obtain ⟨p1, p2⟩ := p
      cases p1
      · cases h2
        exact wpAny_execs_nil (hq _ _ rfl R₁)
      · simp only [if_true] at h2
        obtain ⟨q, h3, h4⟩ := Option.bind_eq_some_iff.mp h2
        obtain ⟨q1, q2⟩ := q
        refine wpAny_passesOwnAt (passes_self hp) (soundS hk hF hO hL b hb' kp s₀ E p2 q2 q1 s₁ _ C h3 R₁ (fun fl s₃ ho R₃ => ?_) (fun lb e s₃ ho R₃ => ?_) hp)
        · cases q1 with
          | next => cases ho; exact ⟨n, Nat.lt_succ_self n, q2, R₃, h4⟩
          | brk => cases ho; cases h4; exact hq _ _ rfl R₃
          | ret v => obtain ⟨y, rfl, hr⟩ := ho; cases h4; exact hq _ _ ⟨y, rfl, hr⟩ R₃
          | exc lb => exact ho.elim
        · subst ho
          cases h4
          exact he lb e s₃ rfl R₃
  | .forDown n e b, st, hM => by
    intro kp s₀ E σ τ out s Q C h R hq he hp
    cases hM with | forDown hl hr hv hb' =>
    simp only [xs1, xs2, xs3, xs4, xs5, xs6, xs7, xs8, xs9, xs10, xs11, xs12, xs13, xs14, xs15, xs16, xs17] at h
    obtain ⟨p, h1, h2⟩ := Option.bind_eq_some_iff.mp h
    obtain ⟨p1, p2⟩ := p
    obtain ⟨i, h3, h2⟩ := bind_of h2
    cases asI_of h3
    obtain ⟨hz, h2⟩ := ite_of h2
    · skip
      refine wpAny_For ?_ (by intro _; rfl)
      refine Call_ (e_blt C hk R (k_range _) hr b_range (by decide) dbg_range ?_)
      refine Pv.callWith_type1 (args_cons (sound_ev hv C hk hF hO h1 R fun y s₁ hy R₁ => args_cons (wpAny_UnaryOp (wpAny_Constant_int (P.neg_int (args_cons (wpAny_UnaryOp (wpAny_Constant_int (P.neg_int (args_nil ?_)))) rfl)))) rfl) (hv.star _)) (hv.star _) rfl
      obtain ⟨t, rfl⟩ := hy
      refine call_range_3 (by decide) ?_ (Or.inl (PyProof.noPylong_small (by decide)))
      refine wpAny_pyIter_range (IsRange.new ..) (small_down hz.1 hz.2) ?_
      have R₂ := (R₁.push (o := { cls := .type "range", data := .fields #[.int i t, .int (-1) (s₁.toks + 1), .int (-1) (s₁.toks + 1 + 1 + 1)] }) (tk := s₁.toks + 1 + 1 + 1 + 1) rfl).1.drop
      have R₃ := R₂.push (o := robj i ((i + 1).toNat : Int) (-1)) (tk := s₁.toks + 1 + 1 + 1 + 1) rfl
      rw [downV_is] at h2
      have e3 : rangeV (((i + 1).toNat : Int) - 1) (-1) (i + 1).toNat = rangeV i (-1) (i + 1).toNat := by
        by_cases h0 : 0 ≤ i
        · have : (((i + 1).toNat : Int) - 1) = i := by omega
          rw [this]
        · have : (i + 1).toNat = 0 := by omega
          rw [this]; rfl
      rw [e3] at h2
      rw [size_down]
      exact loop_range hk hl (soundS hk hF hO hL b hb') C R₃.2 hq he hp i (i + 1).toNat h2 R₃.1
  | .forUp n e b, st, hM => by
    intro kp s₀ E σ τ out s Q C h R hq he hp
    cases hM with | forUp hl hr hv hb' =>
    simp only [xs1, xs2, xs3, xs4, xs5, xs6, xs7, xs8, xs9, xs10, xs11, xs12, xs13, xs14, xs15, xs16, xs17] at h
    obtain ⟨p, h1, h2⟩ := Option.bind_eq_some_iff.mp h
    obtain ⟨p1, p2⟩ := p
    obtain ⟨i, h3, h2⟩ := bind_of h2
    cases asI_of h3
    obtain ⟨hz, h2⟩ := ite_of h2
    · skip
      refine wpAny_For ?_ (by intro _; rfl)
      refine Call_ (e_blt C hk R (k_range _) hr b_range (by decide) dbg_range ?_)
      refine Pv.callWith_type1 (args_cons (sound_ev hv C hk hF hO h1 R fun y s₁ hy R₁ => args_nil ?_) (hv.star _)) (hv.star _) rfl
      obtain ⟨t, rfl⟩ := hy
      refine call_range_1 ?_
      refine wpAny_pyIter_range (IsRange.new ..) (small_up hz.1 hz.2) ?_
      have R₂ := (R₁.push (o := { cls := .type "range", data := .fields #[.int 0 s₁.toks, .int i t, .int 1 (s₁.toks + 1)] }) (tk := s₁.toks + 1 + 1) rfl).1.drop
      have R₃ := R₂.push (o := robj 0 (i.toNat : Int) 1) (tk := s₁.toks + 1 + 1) rfl
      rw [upV_is] at h2
      rw [size_up]
      exact loop_range hk hl (soundS hk hF hO hL b hb') C R₃.2 hq he hp 0 i.toNat h2 R₃.1
  | .forStrs n e b, st, hM => by
    intro kp s₀ E σ τ out s Q C h R hq he hp
    cases hM with | forStrs hl hv hb' =>
    simp only [xs1, xs2, xs3, xs4, xs5, xs6, xs7, xs8, xs9, xs10, xs11, xs12, xs13, xs14, xs15, xs16, xs17] at h
    obtain ⟨p, h1, h2⟩ := Option.bind_eq_some_iff.mp h
    obtain ⟨p1, p2⟩ := p
    obtain ⟨ls, h3, h2⟩ := bind_of h2
    cases asL_of h3
    refine wpAny_For (sound_ev hv C hk hF hO h1 R fun y s₁ hy R₁ => ?_) (hv.folded)
    obtain ⟨_, hz, B, vs, rfl, hB, hs⟩ := hy
    refine wpAny_pyIter_list (isList_of (R₁.K C) hB) ?_
    have R₃ := R₁.push (o := { cls := .type "list_iterator", data := .fields #[.ref B, .int 0 0] }) (tk := s₁.toks) rfl
    exact loop_list hk hl (soundS hk hF hO hL b hb') C R₃.2 hq he hp hB hs hz _ 0 (Nat.zero_le _) ⟨rfl, rfl⟩ h2 R₃.1
  | .brk, st, hM => by
    intro kp s₀ E σ τ out s Q C h R hq he hp
    cases hM
    cases h
    exact wpAny_Break (hq _ _ rfl R)
  | .pass, st, hM => by
    intro kp s₀ E σ τ out s Q C h R hq he hp
    cases hM
    cases h
    exact wpAny_Pass (hq _ _ rfl R)
  | .ret e, st, hM => by
    intro kp s₀ E σ τ out s Q C h R hq he hp
    cases hM with | ret hv =>
    simp only [xs1, xs2, xs3, xs4, xs5, xs6, xs7, xs8, xs9, xs10, xs11, xs12, xs13, xs14, xs15, xs16, xs17] at h
    obtain ⟨p, h1, h2⟩ := Option.map_eq_some_iff.mp h
    cases h2
    exact wpAny_Return_some (sound_ev hv C hk hF hO h1 R fun y s₁ hr R₁ => hq _ _ ⟨y, rfl, hr⟩ R₁)
  | .expr e, st, hM => by
    intro kp s₀ E σ τ out s Q C h R hq he hp
    cases hM with | expr hv =>
    simp only [xs1, xs2, xs3, xs4, xs5, xs6, xs7, xs8, xs9, xs10, xs11, xs12, xs13, xs14, xs15, xs16, xs17] at h
    obtain ⟨p, h1, h2⟩ := Option.map_eq_some_iff.mp h
    cases h2
    exact wpAny_Expr_any (sound_ev hv C hk hF hO h1 R fun y s₁ hr R₁ => hq _ _ rfl R₁) (by unfold interactive; rw [show (envOf cn sc L a cd).scope.kind = .function from hk]; rfl) (hv.swaps _ _)
  | .assert t, st, hM => by
    intro kp s₀ E σ τ out s Q C h R hq he hp
    cases hM with | assert hv =>
    simp only [xs1, xs2, xs3, xs4, xs5, xs6, xs7, xs8, xs9, xs10, xs11, xs12, xs13, xs14, xs15, xs16, xs17] at h
    obtain ⟨p, h1, h2⟩ := Option.bind_eq_some_iff.mp h
    obtain ⟨p1, p2⟩ := p
    cases p1
    · cases h2
    · cases h2
      exact wpAny_Assert_holds (sound_evT hv C hk hF hO hL h1 R fun s₁ R₁ => ⟨rfl, hq _ _ rfl R₁⟩)
  | .try_ b lb, st, hM => by
    intro kp s₀ E σ τ out s Q C h R hq he hp
    cases hM with | try_ hb' hg hlab =>
    simp only [xs1, xs2, xs3, xs4, xs5, xs6, xs7, xs8, xs9, xs10, xs11, xs12, xs13, xs14, xs15, xs16, xs17] at h
    obtain ⟨q, h1, h2⟩ := Option.bind_eq_some_iff.mp h
    obtain ⟨q1, q2⟩ := q
    refine wpAny_Try_except (soundS hk hF hO hL b hb' kp s₀ _ σ q2 q1 s _ C h1 R (fun fl s₁ ho R₁ => ?_) (fun k e s₁ ho R₁ => ?_) (fun hd => PassesOwnAt.looking))
    · cases q1 with
      | next => cases ho; cases h2; exact wpAny_execs_nil (hq _ _ rfl R₁)
      | brk => cases ho; cases h2; exact hq _ _ rfl R₁
      | ret v => obtain ⟨y, rfl, hr⟩ := ho; cases h2; exact hq _ _ ⟨y, rfl, hr⟩ R₁
      | exc lb => exact ho.elim
    · subst ho
      dsimp only at h2
      split at h2
      · rename_i e0
        subst e0
        cases h2
        exact caught C hk hF hlab hg R₁ (fun s₂ R₂ => hq _ _ rfl R₂) hp
      · cases h2
  | .raise_ lb, st, hM => by
    intro kp s₀ E σ τ out s Q C h R hq he hp
    cases hM with | raise_ hg hlab =>
    cases h
    exact raised C hk hlab hg R fun e s' R' => he _ _ _ rfl R'
theorem soundS (hk : sc.kind = .function) (hF : Fx A (envOf cn sc L a cd) l L frs₀ rm) (hO : OrcOk w hb me mean mg mb rm O) (hL : LstOk w hb me mean mg mb rm) : ∀ (x : MS) {ss : List Stmt}, MatS sc x ss →
    StOk w hb me L frs₀ A (envOf cn sc L a cd) (execs ss (envOf cn sc L a cd)) (exs tb O x) mean mg mb
  | .nil, ss, hM => by
    intro kp s₀ E σ τ out s Q C h R hq he hp
    cases hM
    cases h
    exact wpAny_execs_nil (hq _ _ rfl R)
  | .cons x r, ss, hM => by
    intro kp s₀ E σ τ out s Q C h R hq he hp
    cases hM with | cons hx hr =>
    simp only [exs] at h
    obtain ⟨q, h1, h2⟩ := Option.bind_eq_some_iff.mp h
    obtain ⟨q1, q2⟩ := q
    refine wpAny_execs_cons (sound1 hk hF hO hL x hx kp s₀ E σ q2 q1 s _ C h1 R (fun fl s₁ ho R₁ => ?_) (fun k e s₁ ho R₁ => ?_) hp)
    · cases q1 with
      | next => cases ho; exact soundS hk hF hO hL r hr kp s₀ E q2 τ out s₁ Q C h2 R₁ hq he hp
      | brk => cases ho; cases h2; exact hq _ _ rfl R₁
      | ret v => obtain ⟨y, rfl, hr'⟩ := ho; cases h2; exact hq _ _ ⟨y, rfl, hr'⟩ R₁
      | exc lb => exact ho.elim
    · subst ho
      cases h2
      exact he _ _ _ rfl R₁
end
end
end DaWalk
open PySem PySem.W PyProof.Rows DaHead
set_option Elab.async false
set_option linter.unusedVariables false
set_option linter.constructorNameAsVariable false
set_option maxRecDepth 100000
namespace DaWalk
noncomputable def objAt (P : Params) (f : Nm) : Obj := ((KF P).lookup (fnAt f)).getD default
noncomputable def fdAt (P : Params) (f : Nm) : FuncData := match (objAt P f).data with
  | .func fd => fd
  | _ => default
noncomputable def ssAt (P : Params) (f : Nm) : List Stmt := match (fdAt P f).body with
  | .stmts ss => ss
  | _ => []
noncomputable def isTab (f : Nm) : Bool := (tab f).isSome
/-- what stands at a def's place -/
structure DefAt (P : Params) (f : Nm) : Prop where
  obj : (KF P).lookup (fnAt f) = some (objAt P f)
  fd : (objAt P f).data = .func (fdAt P f)
  code : codeIn (KF P) (fdAt P f).code (fdAt P f).qualname = true
  body : (fdAt P f).body = .stmts (ssAt P f)
  kind : (fdAt P f).scope.kind = .function
  co : (fdAt P f).scope.isCoroutine = false
  gen : (fdAt P f).scope.isGenerator = false
  cells : ((fdAt P f).scope.names.all fun x => decide (x.2 ≠ .cell)) = true
  env : ∀ L a, callEnv (fdAt P f) L a = envOf (fdAt P f).qualname (fdAt P f).scope L a (fdAt P f).code
theorem defAt (P : Params) (f : Nm) (h : (isMeth f || isDefN f) = true) : DefAt P f := by
  cases f <;> first | exact Bool.noConfusion h | skip
  all_goals exact ⟨by kernel_rfl, by kernel_rfl, by kernel_rfl, by kernel_rfl, by kernel_rfl, by kernel_rfl, by kernel_rfl, by kernel_rfl, by intro L a; kernel_rfl⟩
/-- its parameters -/
noncomputable def parsOf (meth : Bool) (ps : List Nm) : List Nm := if meth then .self :: ps else ps
structure ParAt (P : Params) (f : Nm) (ns : List Nm) (b : MS) : Prop where
  mat : MatS (fdAt P f).scope b (ssAt P f)
  nd : ns.Nodup
  loc : ∀ n ∈ ns, (fdAt P f).scope.names.lookup (nm n) = some .local
  bind : ∀ vals : List Value, vals.length = ns.length → bindArgs (fdAt P f) ⟨vals, []⟩ = pure ((ns.map nm).zip vals)
theorem len1 {α : Type} {l : List α} (h : l.length = 1) : ∃ a, l = [a] := by
  match l, h with | [a], _ => exact ⟨a, rfl⟩
theorem len2 {α : Type} {l : List α} (h : l.length = 2) : ∃ a b, l = [a, b] := by
  match l, h with | [a, b], _ => exact ⟨a, b, rfl⟩
theorem len4 {α : Type} {l : List α} (h : l.length = 4) : ∃ a b c d, l = [a, b, c, d] := by
  match l, h with | [a, b, c, d], _ => exact ⟨a, b, c, d, rfl⟩
noncomputable def locOk (sc : Scope) (ns : List Nm) : Bool := ns.all fun n => decide (sc.names.lookup (nm n) = some .local)
theorem loc_of {sc : Scope} {ns : List Nm} (h : locOk sc ns = true) : ∀ n ∈ ns, sc.names.lookup (nm n) = some .local := fun n hn => of_decide_eq_true (List.all_eq_true.mp h n hn)
theorem parAt (P : Params) (f : Nm) {meth : Bool} {ps : List Nm} {b : MS} (h : tab f = some (meth, ps, b)) : ParAt P f (parsOf meth ps) b ∧ (isMeth f = meth) ∧ (isMeth f || isDefN f) = true := by
  cases f <;> first | (cases h; done) | skip
  all_goals cases h
  all_goals refine ⟨⟨matS_of (by kernel_rfl) (by kernel_rfl), by decide, loc_of (by kernel_rfl), fun vals hv => ?_⟩, rfl, rfl⟩
  all_goals first
    | (obtain ⟨a, rfl⟩ := len1 hv; kernel_rfl)
    | (obtain ⟨a, b, rfl⟩ := len2 hv; kernel_rfl)
    | (obtain ⟨a, b, c, d, rfl⟩ := len4 hv; kernel_rfl)
end DaWalk
open PySem PySem.W PyProof.Rows DaHead
set_option Elab.async false
set_option linter.unusedVariables false
set_option linter.constructorNameAsVariable false
set_option maxRecDepth 100000
namespace DaWalk
theorem lookup_of {α : Type} {k : Str} {v : α} : ∀ {l : List (Str × α)}, (k, v) ∈ l → (∀ u, (k, u) ∈ l → u = v) → l.lookup k = some v
  | [], h, _ => nomatch h
  | (j, u) :: r, h, hu => by
    rw [List.lookup_cons]
    by_cases q : k = j
    · subst q
      rw [beq_iff_eq.mpr rfl]
      rw [hu u (List.mem_cons_self)]
    · rw [beq_eq_false_iff_ne.mpr q]
      refine lookup_of ?_ fun u' hu' => hu u' (List.mem_cons_of_mem _ hu')
      rcases List.mem_cons.mp h with e | h
      · exact absurd (congrArg Prod.fst e) q
      · exact h
section
variable {w : World} {hb : Heap} {me : Option (Addr × Addr)} {L : Addr} {frs₀ kp : List (Addr × Obj)} {s₀ : Shared} {σ τ : St} {s : Shared} {mean : ExcName → Option Value} {mg mb : Str → Option Value} {A : Around} {m : Str → Option Value} {fl : Fl}
  {l : List Env} {k : Nat} {O : Orc} {env : Env}
theorem args_len : ∀ {vals : List Value} {args : List MV}, ArgsAre w me vals args → vals.length = args.length
  | _, _, .nil => rfl
  | _, _, .cons _ h => by simp [args_len h]
theorem args_mem : ∀ {ns : List Nm} {vals : List Value} {args : List MV} {n : Nm} {v : MV}, ns.Nodup → ArgsAre w me vals args → getN n (ns.zip args) = some v → ∃ x, (nm n, x) ∈ (ns.map nm).zip vals ∧ Rep w me x v ∧ ∀ u, (nm n, u) ∈ (ns.map nm).zip vals → u = x
  | [], _, _, _, _, _, _, h => by cases h
  | _ :: _, _, _, _, _, _, .nil, h => by cases h
  | j :: ns, _, _, n, v, nd, .cons (v := x) (mv := mv) (vs := vs) (mvs := mvs) hr ha, h => by
    simp only [List.zip_cons_cons, getN] at h
    simp only [List.map_cons, List.zip_cons_cons]
    obtain ⟨hj, nd'⟩ := List.nodup_cons.mp nd
    by_cases q : j = n
    · subst q
      rw [if_pos rfl] at h
      cases h
      refine ⟨x, List.mem_cons_self, hr, fun u hu => ?_⟩
      rcases List.mem_cons.mp hu with e | hu
      · exact congrArg Prod.snd e
      · obtain ⟨j', hj', e⟩ := List.mem_map.mp (List.of_mem_zip hu).1
        rw [nm_inj e] at hj'
        exact absurd hj' hj
    · rw [if_neg q] at h
      obtain ⟨y, h1, h2, h3⟩ := args_mem nd' ha h
      refine ⟨y, List.mem_cons_of_mem _ h1, h2, fun u hu => ?_⟩
      rcases List.mem_cons.mp hu with e | hu
      · exact absurd (nm_inj (congrArg Prod.fst e)).symm q
      · exact h3 u hu
theorem locOk_of {ns : List Nm} {vals : List Value} {args : List MV} (nd : ns.Nodup) (ha : ArgsAre w me vals args) : LocOk w me (fun x => ((ns.map nm).zip vals).reverse.lookup x) (ns.zip args) := by
  intro n v h
  obtain ⟨x, h1, h2, h3⟩ := args_mem nd ha h
  exact ⟨x, lookup_of (List.mem_reverse.mpr h1) fun u hu => h3 u (List.mem_reverse.mp hu), h2⟩
theorem enter {f : Nm} {ns : List Nm} {vals : List Value} {R : Result → Shared → Prop} (D : DefAt w.params f) (hloc : ∀ n ∈ ns, (fdAt w.params f).scope.names.lookup (nm n) = some .local)
    (hbind : bindArgs (fdAt w.params f) ⟨vals, []⟩ = pure ((ns.map nm).zip vals)) (C : Cx w hb me frs₀ kp mean mg mb A) (hF : Fx A env l L frs₀ (k + 1)) (H : Hp w hb me L frs₀ kp m fl s.heap)
    (h : ∀ (L' : Addr) (frs' : List (Addr × Obj)) (h₁ : Heap) (tk : Nat), Cx w hb me frs' kp mean mg mb (A.deeper (envOf (fdAt w.params f).qualname (fdAt w.params f).scope L' (fnAt f) (fdAt w.params f).code)) →
      Fx (A.deeper (envOf (fdAt w.params f).qualname (fdAt w.params f).scope L' (fnAt f) (fdAt w.params f).code)) (envOf (fdAt w.params f).qualname (fdAt w.params f).scope L' (fnAt f) (fdAt w.params f).code) (env :: l) L' frs' k →
      Hp w hb me L' frs' kp (fun x => ((ns.map nm).zip vals).reverse.lookup x) fl h₁ → (∀ fl' m' h', Hp w hb me L' frs' kp m' fl' h' → Hp w hb me L frs₀ kp m fl' h') →
      wpAny (model pw w) (A.deeper (envOf (fdAt w.params f).qualname (fdAt w.params f).scope L' (fnAt f) (fdAt w.params f).code)) (execs (ssAt w.params f) (envOf (fdAt w.params f).qualname (fdAt w.params f).scope L' (fnAt f) (fdAt w.params f).code))
        (fun fl s' => R (.ok (.ret (match fl with | .ret v => v | _ => .none))) s')
        (fun e s' => wpAny (model pw w) (A.deeper (envOf (fdAt w.params f).qualname (fdAt w.params f).scope L' (fnAt f) (fdAt w.params f).code)) (leaving (envOf (fdAt w.params f).qualname (fdAt w.params f).scope L' (fnAt f) (fdAt w.params f).code) e) (fun _ s'' => R (.error e) s'') (fun e' s'' => R (.error e') s'') s')
        { s with heap := h₁, toks := tk }) :
    codeAny (model pw w) A (.call (.ref (fnAt f)) ⟨vals, []⟩) R s := by
  obtain ⟨es, n, frs, F, N, S, O⟩ := H
  have X := C.X.keeps F.keep
  obtain ⟨oL, esL, ep, hL, hLd, hLk, hLf⟩ := F.ns
  have hLt := Heap.lt_size hL
  refine codeAny_call_def (fd := fdAt w.params f) (body := ssAt w.params f) (binds := (ns.map nm).zip vals) (by have := hF.depth; omega) (X _ _ D.obj) D.fd (C.T.nolimit.keeps F.keep) (codeRec_of X D.code) D.body (BindsTo.of_eq hbind)
    (fun x hx => of_decide_eq_true (List.all_eq_true.mp D.cells x hx)) (fun x hx => ?_) (fun h₁ hns hk₁ => ?_) D.co D.gen D.kind
  · obtain ⟨j, hj, e⟩ := List.mem_map.mp (List.of_mem_zip hx).1
    rw [← e]
    exact hloc j hj
  · rw [D.env]
    have hnone : hb.get? L = none := Heap.get?_none_of_le F.above
    refine h s.heap.objs.size ((L, oL) :: frs) h₁ _ ⟨C.X, C.T, ⟨fun p hp => ?_, fun x d e p hp => ?_⟩, C.hh⟩
      ⟨Around.frames_deeper hF.fr, rfl, by rw [show (envOf _ _ _ _ _).scope.kind = (fdAt w.params f).scope.kind from rfl, D.kind]; decide, ⟨hF.kind, hF.frame, ⟨esL, ep, hLd⟩, hF.frs.up S⟩, by have := hF.depth; show A.depth + 1 + k < recursionLimit; omega⟩
      ⟨es, n, (L, oL) :: frs, ⟨hns, fun b o e => hk₁ b o (F.keep b o e), Nat.le_trans F.above (Nat.le_of_lt hLt)⟩, fun p hp => ?_, TI.SameUp.refl _, O⟩ fun fl' m' h' H' => ?_
    · rcases C.side.kpn p hp with k | k
      · exact .inl k
      · refine .inr ⟨k.1, fun q hq => ?_⟩
        rcases List.mem_cons.mp hq with rfl | hq
        · exact fun q => (N p (List.mem_append_right _ (List.mem_append_left _ hp))).2.1 q.symm
        · obtain ⟨y, hy, e⟩ := S.fwd q hq
          rw [e]
          exact k.2 y hy
    · subst e
      rcases List.mem_cons.mp hp with rfl | hp
      · exact fun q => (N (d, dictOf es n) (List.mem_append_left _ (List.Mem.head _))).2.1 q.symm
      · obtain ⟨y, hy, q⟩ := S.fwd p hp
        rw [q]
        exact C.side.dxf x d rfl y hy
    · have old : ∀ q ∈ selfL me es n ++ (kp ++ frs), h₁.get? q.1 = some q.2 ∧ q.1 ≠ s.heap.objs.size ∧ hb.get? q.1 = none := fun q hq =>
        ⟨hk₁ _ _ (N q hq).1, Nat.ne_of_lt (Heap.lt_size (N q hq).1), (N q hq).2.2⟩
      rcases List.mem_append.mp hp with h1 | h1
      · exact old p (List.mem_append_left _ h1)
      · rcases List.mem_append.mp h1 with h1 | h1
        · exact old p (List.mem_append_right _ (List.mem_append_left _ h1))
        · rcases List.mem_cons.mp h1 with rfl | h1
          · exact ⟨hk₁ _ _ hL, Nat.ne_of_lt hLt, hnone⟩
          · exact old p (List.mem_append_right _ (List.mem_append_right _ h1))
    · obtain ⟨es', n', frs', F', N', S', O'⟩ := H'
      match frs', S' with
      | q :: frs'', ⟨q1, ⟨sl, q2⟩, S''⟩ =>
        have hLn := N' q (List.mem_append_right _ (List.mem_append_right _ (List.mem_cons_self)))
        rw [q1, q2] at hLn
        refine ⟨es', n', frs'', ⟨⟨_, esL, ep, hLn.1, hLd, hLk, hLf⟩, F'.keep, F.above⟩, fun p hp => ?_, S.trans S'', O'⟩
        have hp' : p ∈ selfL me es' n' ++ (kp ++ (q :: frs'')) := by
          rcases List.mem_append.mp hp with h1 | h1
          · exact List.mem_append_left _ h1
          · rcases List.mem_append.mp h1 with h1 | h1
            · exact List.mem_append_right _ (List.mem_append_left _ h1)
            · exact List.mem_append_right _ (List.mem_append_right _ (List.mem_cons_of_mem _ h1))
        have hn := N' p hp'
        refine ⟨hn.1, ?_, hn.2.2⟩
        rcases List.mem_append.mp hp with h1 | h1
        · obtain ⟨x, d, e, q⟩ := selfL_addr h1
          subst e
          rcases q with q | q
          · rw [q]; exact (N (x, instObj 403 d) (List.mem_append_left _ (List.Mem.tail _ (List.Mem.head _)))).2.1
          · rw [q]; exact (N (d, dictOf es n) (List.mem_append_left _ (List.Mem.head _))).2.1
        · rcases List.mem_append.mp h1 with h1 | h1
          · exact (N p (List.mem_append_right _ (List.mem_append_left _ h1))).2.1
          · obtain ⟨y, hy, q⟩ := S''.fwd p h1
            rw [q]
            exact (N y (List.mem_append_right _ (List.mem_append_right _ hy))).2.1
end
end DaWalk
open PySem PySem.W PyProof.Rows DaHead
set_option Elab.async false
set_option linter.unusedVariables false
set_option linter.constructorNameAsVariable false
set_option maxRecDepth 100000
namespace DaWalk
/-- a def whose body gives back a list of signs -/
noncomputable def constsR : List Nat → List Expr → List Expr
  | [], _ => []
  | c :: cs, es => .Constant (.str (chrS c)) (kOf (es.headD dE)) (es.headD dE).pos :: constsR cs es.tail
noncomputable def lsK : Expr → List Expr
  | .List l _ => l | _ => []
/-- the body built again out of the signs -/
noncomputable def lstR (ss : List Stmt) (cs : List Nat) : List Stmt := [.Return (some (.List (constsR cs (lsK (ke 0 (ss.headD dS)))) (ke 0 (ss.headD dS)).pos)) (ss.headD dS).pos]
theorem lst_shape (P : Params) (f : Nm) {ls : List Nat} (h : lstV f = some ls) : (lstR (ssAt P f) ls = ssAt P f ∧ ls.length ≤ 1000) ∧ bindArgs (fdAt P f) ⟨[], []⟩ = pure [] ∧ isMeth f = false := by
  cases f <;> first | (cases h; done) | skip
  all_goals cases h
  all_goals exact ⟨⟨by kernel_rfl, by decide⟩, by kernel_rfl, rfl⟩
section
variable {w : World} {hb : Heap} {me : Option (Addr × Addr)} {L : Addr} {frs₀ kp : List (Addr × Obj)} {s₀ : Shared} {σ τ : St} {s : Shared} {mean : ExcName → Option Value} {mg mb : Str → Option Value} {A : Around} {E : Value → Shared → Prop} {m : Str → Option Value} {fl : Fl}
  {l : List Env} {k : Nat} {O : Orc} {env : Env}
theorem elts_ev {pos : Pos} : ∀ {cs : List Nat} (elts : List Expr) {s : Shared} {Q : List Value → Shared → Prop}, (∀ vs tk, StrsAre vs (cs.map chrS) → Q vs { s with toks := tk }) →
    wpAny (model pw w) A (spliced (backTo pos (starEach (constsR cs elts) env))) Q E s
  | [], elts, s, Q, hq => args_nil (hq [] s.toks .nil)
  | c :: cs, elts, s, Q, hq => args_cons (wpAny_Constant_str (elts_ev elts.tail fun vs tk hs => hq _ _ (.cons _ _ hs))) rfl
theorem lstOk_of (w : World) (hb : Heap) (me : Option (Addr × Addr)) (mean : ExcName → Option Value) (mg mb : Str → Option Value) (k : Nat) : LstOk w hb me mean mg mb (k + 1) := by
  intro f ls hf A L frs₀ kp m fl s env l R C hF H hq
  obtain ⟨h1, h2, h3⟩ := lst_shape w.params f hf
  have D := defAt w.params f (by rw [lst_def hf, Bool.or_true])
  refine enter (ns := []) D (fun n hn => nomatch hn) h2 C hF H fun L' frs' h₁ tk C' F' H' back => ?_
  obtain ⟨e, hz⟩ := h1
  rw [← e]
  refine wpAny_execs_cons (wpAny_Return_some (List_ (elts_ev _ fun vs tk' hs => ?_)))
  obtain ⟨es, n, frs, F, N, S, O⟩ := H'
  have hl : vs.length = ls.length := by rw [hs.len_eq, List.length_map]
  refine newList_N (s := { s with heap := h₁, toks := tk' }) F N (fun h₂ F₂ N₂ => ?_) (by rw [hl]; unfold sizeLine; omega)
  have hlist := N₂ _ (List.mem_cons_self)
  exact hq _ vs h₂ _ ⟨_, hlist.1, rfl, 0, rfl⟩ hs (back _ _ _ ⟨es, n, frs, F₂, fun p hp => N₂ p (List.mem_cons_of_mem _ hp), S, O⟩)
theorem same_state {s s' : Shared} (g : s'.gens = s.gens) (d : s'.drawn = s.drawn) (o : s'.os = s.os) : s' = { s with heap := s'.heap, toks := s'.toks } := by
  cases s; cases s'
  simp only at g d o
  subst g d o
  rfl
theorem orcOk_of (w : World) (hb : Heap) (me : Option (Addr × Addr)) (mean : ExcName → Option Value) (mg mb : Str → Option Value) : ∀ k, OrcOk w hb me mean mg mb (k + 1) (orc tb k)
  | 0 => fun f args fl r fl' h => nomatch h
  | k + 1 => by
    intro f args fl r fl' h A L frs₀ kp m s env l vals R C hF H ha hq
    obtain ⟨⟨meth, ps, b⟩, h1, h2⟩ := Option.bind_eq_some_iff.mp h
    obtain ⟨PA, hmeth, hdef⟩ := parAt w.params f h1
    have D := defAt w.params f hdef
    unfold runM at h2
    dsimp only at h2
    split at h2
    · rename_i hlen
      obtain ⟨q, h3, h4⟩ := Option.bind_eq_some_iff.mp h2
      obtain ⟨q1, q2⟩ := q
      -- the arguments, self in front
      have ha' : ArgsAre w me (withSelf me f vals) (if meth then .self :: args else args) ∧ (if meth then (Nm.self, MV.self) :: ps.zip args else ps.zip args) = (parsOf meth ps).zip (if meth then .self :: args else args) := by
        unfold withSelf parsOf
        rw [hmeth]
        cases meth with
        | false => exact ⟨ha, rfl⟩
        | true =>
          refine ⟨?_, rfl⟩
          cases me with
          | none =>
            exfalso
            obtain ⟨es, n, frs, F, N, S, O⟩ := H
            have hs := hlen.2
            cases fl with
            | none => cases hs
            | some l => exact Bool.noConfusion O.1
          | some xd => obtain ⟨x, d⟩ := xd; exact .cons ⟨x, d, rfl, rfl⟩ ha
      rw [ha'.2] at h3
      have hvl : (withSelf me f vals).length = (parsOf meth ps).length := by
        rw [args_len ha'.1]
        unfold parsOf
        cases meth <;> simp [hlen.1]
      refine enter (ns := parsOf meth ps) D PA.loc (PA.bind _ hvl) C hF H fun L' frs' h₁ tk C' F' H' back => ?_
      refine soundS D.kind F' (orcOk_of w hb me mean mg mb k) (lstOk_of w hb me mean mg mb k) b PA.mat kp { s with heap := h₁, toks := tk } _ _ q2 q1 _ _ C' h3 ⟨⟨_, H', locOk_of PA.nd ha'.1⟩, rfl, rfl, rfl⟩ (fun fl₂ s₂ ho R₂ => ?_) (fun lb e s₂ ho R₂ => ?_) (fun hd => PassesOwnAt.leaving)
      · obtain ⟨⟨m₂, H₂, _⟩, g, d, o⟩ := R₂
        have e₂ := same_state (s := s) (s' := s₂) g d o
        cases q1 with
        | next =>
          cases ho
          cases h4
          have := hq .none s₂.heap s₂.toks rfl (back _ _ _ H₂)
          rw [← e₂] at this
          exact this
        | brk => cases h4
        | ret v =>
          obtain ⟨y, rfl, hr⟩ := ho
          cases h4
          have := hq y s₂.heap s₂.toks hr (back _ _ _ H₂)
          rw [← e₂] at this
          exact this
        | exc lb => exact ho.elim
      · subst ho
        cases h4
    · cases h2
end
end DaWalk
open PySem PySem.W PyProof.Rows DaHead
set_option Elab.async false
set_option linter.unusedVariables false
set_option linter.constructorNameAsVariable false
set_option linter.unusedSimpArgs false
set_option maxRecDepth 100000
namespace DaWalk
noncomputable abbrev FL := List (Nm × MV)
/-- the fields before the first word's regions are marked, and behind -/
noncomputable def F6 (w : List Nat) (c lm lb b k : Int) : FL := [(.current, .str w), (.cursor, .int c), (.limit, .int lm), (.limitBackward, .int lb), (.bra, .int b), (.ket, .int k)]
noncomputable def F7 (w : List Nat) (c lm lb b k p : Int) : FL := [(.current, .str w), (.cursor, .int c), (.limit, .int lm), (.limitBackward, .int lb), (.bra, .int b), (.ket, .int k), (.ip1, .int p)]
theorem setCurrent_0 (k : Nat) (w : List Nat) : orc tb (k + 1) .setCurrent [.str w] (some []) = some (.none, some (F6 w 0 w.length 0 0 w.length)) := by
  rfl
theorem setCurrent_6 (k : Nat) (w v : List Nat) (c lm lb b kk : Int) : orc tb (k + 1) .setCurrent [.str w] (some (F6 v c lm lb b kk)) = some (.none, some (F6 w 0 w.length 0 0 w.length)) := by
  rfl
theorem setCurrent_7 (k : Nat) (w v : List Nat) (c lm lb b kk p : Int) : orc tb (k + 1) .setCurrent [.str w] (some (F7 v c lm lb b kk p)) = some (.none, some (F7 w 0 w.length 0 0 w.length p)) := by
  rfl
theorem tab_in : tab .inGroupingB = some (true, [.s], bInGroupingB) := rfl
theorem tab_eq : tab .eqSB = some (true, [.s], bEqSB) := rfl
theorem tab_rep : tab .replaceS = some (true, [.cBra, .cKet, .s], bReplaceS) := rfl
end DaWalk
open PySem PySem.W PyProof.Rows DaHead
set_option Elab.async false
set_option linter.unusedVariables false
set_option linter.constructorNameAsVariable false
set_option linter.unusedSimpArgs false
set_option maxRecDepth 100000
namespace DaWalk
/-- the first place from c on where p holds, the end where none -/
noncomputable def firstAt (p : Nat → Bool) (w : List Nat) (c : Nat) : Nat := c + ((w.drop c).takeWhile fun x => !p x).length
theorem firstAt_end (p : Nat → Bool) (w : List Nat) {c : Nat} (h : w.length ≤ c) : firstAt p w c = c := by
  unfold firstAt; rw [List.drop_eq_nil_of_le h]; rfl
theorem firstAt_hit (p : Nat → Bool) (w : List Nat) {c : Nat} (h : c < w.length) (hp : p w[c] = true) : firstAt p w c = c := by
  unfold firstAt; rw [List.drop_eq_getElem_cons h, List.takeWhile_cons]; simp [hp]
theorem firstAt_step (p : Nat → Bool) (w : List Nat) {c : Nat} (h : c < w.length) (hp : p w[c] = false) : firstAt p w c = firstAt p w (c + 1) := by
  unfold firstAt; rw [List.drop_eq_getElem_cons h, List.takeWhile_cons]; simp [hp]; omega
theorem firstAt_le (p : Nat → Bool) (w : List Nat) (c : Nat) (h : c ≤ w.length) : firstAt p w c ≤ w.length := by
  unfold firstAt
  have := List.takeWhile_sublist (fun x => !p x) (l := w.drop c) |>.length_le
  simp at this; omega
theorem firstAt_ge (p : Nat → Bool) (w : List Nat) (c : Nat) : c ≤ firstAt p w c := by unfold firstAt; omega
theorem loopW_succ (t : St → Option (Bool × St)) (b : St → Option (Out × St)) (k : Nat) (σ : St) : loopW t b (k + 1) σ = (t σ).bind fun p => if p.1 then (b p.2).bind fun q => match q.1 with
      | .next => loopW t b k q.2
      | .brk => some (.next, q.2)
      | o => some (o, q.2)
    else some (.next, p.2) := rfl
theorem loopW_stop {t : St → Option (Bool × St)} {b : St → Option (Out × St)} {k : Nat} {σ τ : St} (h : t σ = some (false, τ)) : loopW t b (k + 1) σ = some (.next, τ) := by rw [loopW_succ, h]; rfl
theorem loopW_turn {t : St → Option (Bool × St)} {b : St → Option (Out × St)} {k : Nat} {σ τ υ : St} (h : t σ = some (true, τ)) (h2 : b τ = some (.next, υ)) : loopW t b (k + 1) σ = loopW t b k υ := by rw [loopW_succ, h]; simp only [Option.bind_some, if_true]; rw [h2]; rfl
theorem loopW_brk {t : St → Option (Bool × St)} {b : St → Option (Out × St)} {k : Nat} {σ τ υ : St} (h : t σ = some (true, τ)) (h2 : b τ = some (.brk, υ)) : loopW t b (k + 1) σ = some (.next, υ) := by rw [loopW_succ, h]; simp only [Option.bind_some, if_true]; rw [h2]; rfl
theorem loopW_ret {t : St → Option (Bool × St)} {b : St → Option (Out × St)} {k : Nat} {σ τ υ : St} {v : MV} (h : t σ = some (true, τ)) (h2 : b τ = some (.ret v, υ)) : loopW t b (k + 1) σ = some (.ret v, υ) := by rw [loopW_succ, h]; simp only [Option.bind_some, if_true]; rw [h2]; rfl
theorem loopW_exc {t : St → Option (Bool × St)} {b : St → Option (Out × St)} {k : Nat} {σ τ υ : St} {v : Nm} (h : t σ = some (true, τ)) (h2 : b τ = some (.exc v, υ)) : loopW t b (k + 1) σ = some (.exc v, υ) := by rw [loopW_succ, h]; simp only [Option.bind_some, if_true]; rw [h2]; rfl
theorem exs_next {O : Orc} {a : M1} {r : MS} {σ τ : St} (h : ex1 tb O a σ = some (.next, τ)) : exs tb O (.cons a r) σ = exs tb O r τ := by simp only [exs]; rw [h]; rfl
theorem exs_out {O : Orc} {a : M1} {r : MS} {σ τ : St} {o : Out} (h : ex1 tb O a σ = some (o, τ)) (ho : o ≠ .next) : exs tb O (.cons a r) σ = some (o, τ) := by
  simp only [exs]; rw [h]
  cases o <;> first | rfl | exact absurd rfl ho
theorem orc_ret {f : Nm} {ps : List Nm} {b : MS} {args : List MV} {fl : FL} {k : Nat} {v : MV} {lc : List (Nm × MV)} {fl' : Fl} (ht : tab f = some (true, ps, b)) (hl : ps.length = args.length)
    (h : exs tb (orc tb k) b ⟨(.self, .self) :: ps.zip args, some fl⟩ = some (.ret v, ⟨lc, fl'⟩)) : orc tb (k + 1) f args (some fl) = some (v, fl') := by
  simp only [orc]; rw [ht]; simp only [Option.bind_some, runM]
  rw [if_pos ⟨hl, rfl⟩]
  simp only [if_true]
  rw [h]; rfl
theorem orc_next {f : Nm} {ps : List Nm} {b : MS} {args : List MV} {fl : FL} {k : Nat} {lc : List (Nm × MV)} {fl' : Fl} (ht : tab f = some (true, ps, b)) (hl : ps.length = args.length)
    (h : exs tb (orc tb k) b ⟨(.self, .self) :: ps.zip args, some fl⟩ = some (.next, ⟨lc, fl'⟩)) : orc tb (k + 1) f args (some fl) = some (.none, fl') := by
  simp only [orc]; rw [ht]; simp only [Option.bind_some, runM]
  rw [if_pos ⟨hl, rfl⟩]
  simp only [if_true]
  rw [h]; rfl
theorem orcF_ret {f : Nm} {ps : List Nm} {b : MS} {args : List MV} {fl : Fl} {k : Nat} {v : MV} {lc : List (Nm × MV)} {fl' : Fl} (ht : tab f = some (false, ps, b)) (hl : ps.length = args.length)
    (h : exs tb (orc tb k) b ⟨ps.zip args, fl⟩ = some (.ret v, ⟨lc, fl'⟩)) : orc tb (k + 1) f args fl = some (v, fl') := by
  simp only [orc]; rw [ht]; simp only [Option.bind_some, runM]
  rw [if_pos ⟨hl, rfl⟩]
  simp only [Bool.false_eq_true, if_false]
  rw [h]; rfl
/-! one step at a time -/
section
variable {O : Orc} {σ σ' : St} {v : MV} {e : ME} {r : Option (Out × St)}
theorem ev_c0 {m : Nm} {fl' : Fl} (hm : methOk m σ = true) (h : O m [] σ.fld = some (v, fl')) : ev tb O (.call0 m) σ = some (v, ⟨σ.loc, fl'⟩) := by
  show (if methOk m σ then callM O m [] σ else none) = _
  rw [if_pos hm]; unfold callM; rw [h]; rfl
theorem ev_c1 {m : Nm} {a : ME} {u : MV} {fl' : Fl} (hm : methOk m σ = true) (ha : ev tb O a σ = some (u, σ)) (h : O m [u] σ.fld = some (v, fl')) : ev tb O (.call1 m a) σ = some (v, ⟨σ.loc, fl'⟩) := by
  show (if methOk m σ then (ev tb O a σ).bind fun p => if methOk m p.2 then callM O m [p.1] p.2 else none else none) = _
  rw [if_pos hm, ha]
  show (if methOk m σ then callM O m [u] σ else none) = _
  rw [if_pos hm]; unfold callM; rw [h]; rfl
theorem s_asg {n : Nm} (h : ev tb O e σ = some (v, σ')) : ex1 tb O (.asgL n e) σ = some (.next, setL n v σ') := by simp only [xs1, xs2, xs3, xs4, xs5, xs6, xs7, xs8, xs9, xs10, xs11, xs12, xs13, xs14, xs15, xs16, xs17]; rw [h]; rfl
theorem s_expr (h : ev tb O e σ = some (v, σ')) : ex1 tb O (.expr e) σ = some (.next, σ') := by simp only [xs1, xs2, xs3, xs4, xs5, xs6, xs7, xs8, xs9, xs10, xs11, xs12, xs13, xs14, xs15, xs16, xs17]; rw [h]; rfl
theorem s_ret (h : ev tb O e σ = some (v, σ')) : ex1 tb O (.ret e) σ = some (.ret v, σ') := by simp only [xs1, xs2, xs3, xs4, xs5, xs6, xs7, xs8, xs9, xs10, xs11, xs12, xs13, xs14, xs15, xs16, xs17]; rw [h]; rfl
theorem s_if1 {A B : MS} (ht : evT tb O e σ = some (true, σ')) (h : exs tb O A σ' = r) : ex1 tb O (.ifs e A B) σ = r := by simp only [xs1, xs2, xs3, xs4, xs5, xs6, xs7, xs8, xs9, xs10, xs11, xs12, xs13, xs14, xs15, xs16, xs17]; rw [ht]; exact h
theorem s_if0 {A B : MS} (ht : evT tb O e σ = some (false, σ')) (h : exs tb O B σ' = r) : ex1 tb O (.ifs e A B) σ = r := by simp only [xs1, xs2, xs3, xs4, xs5, xs6, xs7, xs8, xs9, xs10, xs11, xs12, xs13, xs14, xs15, xs16, xs17]; rw [ht]; exact h
theorem t_not1 (h : evT tb O e σ = some (false, σ')) : evT tb O (.not e) σ = some (true, σ') := by simp only [xt1, xt2, xt3, xt4, xt5, xt6, xt8, xt12, xt13, xt14, xt15, xt23, xt27, xt28, xt29, xt30, xt31, xt32, xt33]; rw [h]; rfl
theorem t_not0 (h : evT tb O e σ = some (true, σ')) : evT tb O (.not e) σ = some (false, σ') := by simp only [xt1, xt2, xt3, xt4, xt5, xt6, xt8, xt12, xt13, xt14, xt15, xt23, xt27, xt28, xt29, xt30, xt31, xt32, xt33]; rw [h]; rfl
theorem t_c1 {m : Nm} {a : ME} {b : Bool} (h : ev tb O (.call1 m a) σ = some (.bool b, σ')) : evT tb O (.call1 m a) σ = some (b, σ') := by
  show evP tb O (.call1 m a) σ = _
  unfold evP; rw [h]; rfl
theorem t_c0 {m : Nm} {b : Bool} (h : ev tb O (.call0 m) σ = some (.bool b, σ')) : evT tb O (.call0 m) σ = some (b, σ') := by
  show evP tb O (.call0 m) σ = _
  unfold evP; rw [h]; rfl
theorem t_yes {q : Prop} [Decidable q] (h : q) (e' : evT tb O e σ = some (decide q, σ')) : evT tb O e σ = some (true, σ') := by rw [e', decide_eq_true h]
theorem t_no {q : Prop} [Decidable q] (h : ¬ q) (e' : evT tb O e σ = some (decide q, σ')) : evT tb O e σ = some (false, σ') := by rw [e', decide_eq_false h]
theorem t_cc {m : Nm} {a b : ME} {op : CmpOp} {u : MV} {c : Bool} (h : ev tb O (.call1 m a) σ = some (v, σ')) (hb : ev tb O b σ' = some (u, σ')) (hc : cmpM op v u = some c) : evT tb O (.cmp op (.call1 m a) b) σ = some (c, σ') := by
  show ((ev tb O (.call1 m a) σ).bind fun p => (ev tb O b p.2).bind fun q => (cmpM op p.1 q.1).map fun r => (r, q.2)) = _
  rw [h]
  show ((ev tb O b σ').bind fun q => (cmpM op v q.1).map fun r => (r, q.2)) = _
  rw [hb]
  show (cmpM op v u).map _ = _
  rw [hc]; rfl
theorem exs_last {a : M1} {σ : St} {o : Out} {τ : St} (h : ex1 tb O a σ = some (o, τ)) : exs tb O (.cons a .nil) σ = some (o, τ) := by
  cases o <;> (simp only [exs]; rw [h]; rfl)
end
section
variable (l : List Nat) (w : List Nat) (lb b kk p : Int) (O : Orc)
noncomputable abbrev sL (l : List Nat) : List (Nm × MV) := [(.self, .self), (.s, .sset l)]
theorem t_lt (c lm : Int) : evT tb O (.cmp .Lt fC fL) ⟨sL l, some (F7 w c lm lb b kk p)⟩ = some (decide (c < lm), ⟨sL l, some (F7 w c lm lb b kk p)⟩) := by
  simp [xt1, xt2, xt3, xt4, xt5, xt6, xt8, xt12, xt13, xt14, xt15, xt23, xt27, xt28, xt29, xt30, xt31, xt32, xt33, xv1, xv2, xv3, xv4, xv5, xv6, xv7, xv8, xv9, xv10, xv11, xv12, xv13, xv14, xv15, xv16, xv17, xv18, xv19, xv20, xv21, xv22, xv23, xv24, xv25, xv26, xv27, getF, selfOk, getN, F7, fC, fL, cmpM]
noncomputable def bodyG (op : CmpOp) : MS := blk [.ifs (.cmp op (.idx fCur fC) (.loc .s)) (blk [rT]) .nil, .addF .cursor (.int 1)]
theorem out_hit {c : Nat} (lm : Int) (hc : c < w.length) (hp : l.contains w[c] = true) : exs tb O (bodyG .In) ⟨sL l, some (F7 w c lm lb b kk p)⟩ = some (.ret (.bool true), ⟨sL l, some (F7 w c lm lb b kk p)⟩) := by
  have hg : w[c]? = some w[c] := List.getElem?_eq_getElem hc
  simp only [List.contains_iff_mem] at hp
  simp [bodyG, xt1, xt2, xt3, xt4, xt5, xt6, xt8, xt12, xt13, xt14, xt15, xt23, xt27, xt28, xt29, xt30, xt31, xt32, xt33, xv1, xv2, xv3, xv4, xv5, xv6, xv7, xv8, xv9, xv10, xv11, xv12, xv13, xv14, xv15, xv16, xv17, xv18, xv19, xv20, xv21, xv22, xv23, xv24, xv25, xv26, xv27, exs, xs1, xs2, xs3, xs4, xs5, xs6, xs7, xs8, xs9, xs10, xs11, xs12, xs13, xs14, xs15, xs16, xs17, blk, getF, selfOk, getN, F7, fCur, fC, fL, cmpM, idxM, isLoc, hg, hp, rT]
theorem out_on {c : Nat} (lm : Int) (hc : c < w.length) (hp : l.contains w[c] = false) : exs tb O (bodyG .In) ⟨sL l, some (F7 w c lm lb b kk p)⟩ = some (.next, ⟨sL l, some (F7 w (c + 1 : Nat) lm lb b kk p)⟩) := by
  have hg : w[c]? = some w[c] := List.getElem?_eq_getElem hc
  have hp' : w[c] ∉ l := by simpa using hp
  simp [bodyG, xt1, xt2, xt3, xt4, xt5, xt6, xt8, xt12, xt13, xt14, xt15, xt23, xt27, xt28, xt29, xt30, xt31, xt32, xt33, xv1, xv2, xv3, xv4, xv5, xv6, xv7, xv8, xv9, xv10, xv11, xv12, xv13, xv14, xv15, xv16, xv17, xv18, xv19, xv20, xv21, xv22, xv23, xv24, xv25, xv26, xv27, exs, xs1, xs2, xs3, xs4, xs5, xs6, xs7, xs8, xs9, xs10, xs11, xs12, xs13, xs14, xs15, xs16, xs17, blk, getF, selfOk, getN, setF, putN, addM, F7, fCur, fC, fL, cmpM, idxM, isLoc, hg, hp', rT]
theorem in_hit {c : Nat} (lm : Int) (hc : c < w.length) (hp : l.contains w[c] = false) : exs tb O (bodyG .NotIn) ⟨sL l, some (F7 w c lm lb b kk p)⟩ = some (.ret (.bool true), ⟨sL l, some (F7 w c lm lb b kk p)⟩) := by
  have hg : w[c]? = some w[c] := List.getElem?_eq_getElem hc
  have hp' : w[c] ∉ l := by simpa using hp
  simp [bodyG, xt1, xt2, xt3, xt4, xt5, xt6, xt8, xt12, xt13, xt14, xt15, xt23, xt27, xt28, xt29, xt30, xt31, xt32, xt33, xv1, xv2, xv3, xv4, xv5, xv6, xv7, xv8, xv9, xv10, xv11, xv12, xv13, xv14, xv15, xv16, xv17, xv18, xv19, xv20, xv21, xv22, xv23, xv24, xv25, xv26, xv27, exs, xs1, xs2, xs3, xs4, xs5, xs6, xs7, xs8, xs9, xs10, xs11, xs12, xs13, xs14, xs15, xs16, xs17, blk, getF, selfOk, getN, F7, fCur, fC, fL, cmpM, idxM, isLoc, hg, hp', rT]
theorem in_on {c : Nat} (lm : Int) (hc : c < w.length) (hp : l.contains w[c] = true) : exs tb O (bodyG .NotIn) ⟨sL l, some (F7 w c lm lb b kk p)⟩ = some (.next, ⟨sL l, some (F7 w (c + 1 : Nat) lm lb b kk p)⟩) := by
  have hg : w[c]? = some w[c] := List.getElem?_eq_getElem hc
  simp only [List.contains_iff_mem] at hp
  simp [bodyG, xt1, xt2, xt3, xt4, xt5, xt6, xt8, xt12, xt13, xt14, xt15, xt23, xt27, xt28, xt29, xt30, xt31, xt32, xt33, xv1, xv2, xv3, xv4, xv5, xv6, xv7, xv8, xv9, xv10, xv11, xv12, xv13, xv14, xv15, xv16, xv17, xv18, xv19, xv20, xv21, xv22, xv23, xv24, xv25, xv26, xv27, exs, xs1, xs2, xs3, xs4, xs5, xs6, xs7, xs8, xs9, xs10, xs11, xs12, xs13, xs14, xs15, xs16, xs17, blk, getF, selfOk, getN, setF, putN, addM, F7, fCur, fC, fL, cmpM, idxM, isLoc, hg, hp, rT]
/-- what the two scans leave -/
noncomputable def scanR (p' : Nat → Bool) (c : Nat) : Out × St :=
  if firstAt p' w c < w.length then (.ret (.bool true), ⟨sL l, some (F7 w (firstAt p' w c : Nat) w.length lb b kk p)⟩) else (.next, ⟨sL l, some (F7 w w.length w.length lb b kk p)⟩)
theorem goOut_loop : ∀ (n c : Nat), c ≤ w.length → w.length - c < n →
    loopW (evT tb O (.cmp .Lt fC fL)) (exs tb O (bodyG .In)) n ⟨sL l, some (F7 w c w.length lb b kk p)⟩ = some (scanR l w lb b kk p (fun x => l.contains x) c)
  | 0, c, h, hn => absurd hn (Nat.not_lt_zero _)
  | n + 1, c, h, hn => by
    have hT := t_lt l w lb b kk p O c w.length
    by_cases hc : c < w.length
    · rw [decide_eq_true (by omega)] at hT
      cases hp : l.contains w[c]
      · rw [loopW_turn hT (out_on l w lb b kk p O _ hc hp), goOut_loop n (c + 1) hc (by omega)]
        unfold scanR
        rw [firstAt_step _ w hc hp]
      · rw [loopW_ret hT (out_hit l w lb b kk p O _ hc hp)]
        unfold scanR
        rw [firstAt_hit _ w hc hp, if_pos hc]
    · have hc' : c = w.length := by omega
      subst hc'
      rw [decide_eq_false (by omega)] at hT
      rw [loopW_stop hT]
      unfold scanR
      rw [firstAt_end _ w (Nat.le_refl _), if_neg (by omega)]
theorem goIn_loop : ∀ (n c : Nat), c ≤ w.length → w.length - c < n →
    loopW (evT tb O (.cmp .Lt fC fL)) (exs tb O (bodyG .NotIn)) n ⟨sL l, some (F7 w c w.length lb b kk p)⟩ = some (scanR l w lb b kk p (fun x => !l.contains x) c)
  | 0, c, h, hn => absurd hn (Nat.not_lt_zero _)
  | n + 1, c, h, hn => by
    have hT := t_lt l w lb b kk p O c w.length
    by_cases hc : c < w.length
    · rw [decide_eq_true (by omega)] at hT
      cases hp : l.contains w[c]
      · rw [loopW_ret hT (in_hit l w lb b kk p O _ hc hp)]
        unfold scanR
        rw [firstAt_hit _ w hc (by simp only [hp]; rfl), if_pos hc]
      · rw [loopW_turn hT (in_on l w lb b kk p O _ hc hp), goIn_loop n (c + 1) hc (by omega)]
        unfold scanR
        rw [firstAt_step _ w hc (by simp only [hp]; rfl)]
    · have hc' : c = w.length := by omega
      subst hc'
      rw [decide_eq_false (by omega)] at hT
      rw [loopW_stop hT]
      unfold scanR
      rw [firstAt_end _ w (Nat.le_refl _), if_neg (by omega)]
theorem goOut_is (k c : Nat) (h : c ≤ w.length) (hz : w.length < 100) : orc tb (k + 1) .goOut [.sset l] (some (F7 w c w.length lb b kk p)) =
    some (if firstAt (fun x => l.contains x) w c < w.length then (.bool true, some (F7 w (firstAt (fun x => l.contains x) w c : Nat) w.length lb b kk p)) else (.bool false, some (F7 w w.length w.length lb b kk p))) := by
  have hl : ex1 tb (orc tb k) (.whil (.cmp .Lt fC fL) (bodyG .In)) ⟨sL l, some (F7 w c w.length lb b kk p)⟩ = _ := goOut_loop l w lb b kk p (orc tb k) 100 c h (by omega)
  unfold scanR at hl
  by_cases hf : firstAt (fun x => l.contains x) w c < w.length
  · rw [if_pos hf] at hl ⊢
    apply orc_ret (ps := [.s]) (b := bGoOut) rfl rfl
    exact exs_out (r := blk [rF]) hl (by simp)
  · rw [if_neg hf] at hl ⊢
    apply orc_ret (ps := [.s]) (b := bGoOut) rfl rfl
    exact (exs_next (r := blk [rF]) hl).trans rfl
theorem goIn_is (k c : Nat) (h : c ≤ w.length) (hz : w.length < 100) : orc tb (k + 1) .goIn [.sset l] (some (F7 w c w.length lb b kk p)) =
    some (if firstAt (fun x => !l.contains x) w c < w.length then (.bool true, some (F7 w (firstAt (fun x => !l.contains x) w c : Nat) w.length lb b kk p)) else (.bool false, some (F7 w w.length w.length lb b kk p))) := by
  have hl : ex1 tb (orc tb k) (.whil (.cmp .Lt fC fL) (bodyG .NotIn)) ⟨sL l, some (F7 w c w.length lb b kk p)⟩ = _ := goIn_loop l w lb b kk p (orc tb k) 100 c h (by omega)
  unfold scanR at hl
  by_cases hf : firstAt (fun x => !l.contains x) w c < w.length
  · rw [if_pos hf] at hl ⊢
    apply orc_ret (ps := [.s]) (b := bGoIn) rfl rfl
    exact exs_out (r := blk [rF]) hl (by simp)
  · rw [if_neg hf] at hl ⊢
    apply orc_ret (ps := [.s]) (b := bGoIn) rfl rfl
    exact (exs_next (r := blk [rF]) hl).trans rfl
end
end DaWalk
open PySem PySem.W PyProof.Rows DaHead
set_option Elab.async false
set_option linter.unusedVariables false
set_option linter.constructorNameAsVariable false
set_option linter.unusedSimpArgs false
set_option maxRecDepth 100000
namespace DaWalk
section
variable (w : List Nat) (k : Nat)
theorem inG_end (l : List Nat) {c lb : Int} (h : c ≤ lb) (lm b kk p : Int) : orc tb (k + 1) .inGroupingB [.sset l] (some (F7 w c lm lb b kk p)) = some (.bool false, some (F7 w c lm lb b kk p)) := by
  simp [orc, tab_in, runM, bInGroupingB, blk, exs, xs1, xs2, xs3, xs4, xs5, xs6, xs7, xs8, xs9, xs10, xs11, xs12, xs13, xs14, xs15, xs16, xs17, xv1, xv2, xv3, xv4, xv5, xv6, xv7, xv8, xv9, xv10, xv11, xv12, xv13, xv14, xv15, xv16, xv17, xv18, xv19, xv20, xv21, xv22, xv23, xv24, xv25, xv26, xv27, xt1, xt2, xt3, xt4, xt5, xt6, xt8, xt12, xt13, xt14, xt15, xt23, xt27, xt28, xt29, xt30, xt31, xt32, xt33, getF, selfOk, getN, F7, fCur, fC, fL, fLb, cmpM, rF, h]
theorem inG_is (l : List Nat) {c : Nat} {lb : Int} (h0 : lb < c) (h1 : 0 < c) (h : c ≤ w.length) (lm b kk p : Int) : orc tb (k + 1) .inGroupingB [.sset l] (some (F7 w c lm lb b kk p)) =
    some (if l.contains (w[c - 1]'(by omega)) then (.bool true, some (F7 w (c - 1 : Nat) lm lb b kk p)) else (.bool false, some (F7 w c lm lb b kk p))) := by
  have hg : w[c - 1]? = some (w[c - 1]'(by omega)) := List.getElem?_eq_getElem (by omega)
  have e1 : ((c : Int) - 1).toNat = c - 1 := by omega
  have e2 : ¬ ((c : Int) ≤ lb) := by omega
  have e3 : (1 : Int) ≤ (c : Int) := by omega
  have e4 : ((c - 1 : Nat) : Int) = (c : Int) - 1 := by omega
  cases hp : l.contains (w[c - 1]'(by omega))
  · have hp' : (w[c - 1]'(by omega)) ∉ l := by simpa using hp
    simp [orc, tab_in, runM, bInGroupingB, blk, exs, xs1, xs2, xs3, xs4, xs5, xs6, xs7, xs8, xs9, xs10, xs11, xs12, xs13, xs14, xs15, xs16, xs17, xv1, xv2, xv3, xv4, xv5, xv6, xv7, xv8, xv9, xv10, xv11, xv12, xv13, xv14, xv15, xv16, xv17, xv18, xv19, xv20, xv21, xv22, xv23, xv24, xv25, xv26, xv27, xt1, xt2, xt3, xt4, xt5, xt6, xt8, xt12, xt13, xt14, xt15, xt23, xt27, xt28, xt29, xt30, xt31, xt32, xt33, getF, selfOk, getN, setF, putN, F7, fCur, fC, fL, fLb, cmpM, rF, rT, subM, idxM, isLoc, e1, e2, e3, hg, hp']
  · have hp' : (w[c - 1]'(by omega)) ∈ l := by simpa using hp
    simp [orc, tab_in, runM, bInGroupingB, blk, exs, xs1, xs2, xs3, xs4, xs5, xs6, xs7, xs8, xs9, xs10, xs11, xs12, xs13, xs14, xs15, xs16, xs17, xv1, xv2, xv3, xv4, xv5, xv6, xv7, xv8, xv9, xv10, xv11, xv12, xv13, xv14, xv15, xv16, xv17, xv18, xv19, xv20, xv21, xv22, xv23, xv24, xv25, xv26, xv27, xt1, xt2, xt3, xt4, xt5, xt6, xt8, xt12, xt13, xt14, xt15, xt23, xt27, xt28, xt29, xt30, xt31, xt32, xt33, getF, selfOk, getN, setF, putN, F7, fCur, fC, fL, fLb, cmpM, rF, rT, subM, idxM, isLoc, e1, e2, e3, e4, hg, hp']
theorem eqS_is (s : List Nat) {c lb : Nat} (h0 : lb ≤ c) (h : c ≤ w.length) (lm b kk p : Int) : orc tb (k + 1) .eqSB [.str s] (some (F7 w c lm lb b kk p)) =
    some (if s.isSuffixOf ((w.drop lb).take (c - lb)) then (.bool true, some (F7 w ((c : Int) - s.length) lm lb b kk p)) else (.bool false, some (F7 w c lm lb b kk p))) := by
  have e1 : (0 : Int) ≤ lb ∧ (lb : Int) ≤ c ∧ (c : Int) ≤ w.length := by omega
  have e2 : ((c : Int) - lb).toNat = c - lb := by omega
  cases hp : s.isSuffixOf ((w.drop lb).take (c - lb)) <;>
    simp [orc, tab_eq, runM, bEqSB, blk, exs, xs1, xs2, xs3, xs4, xs5, xs6, xs7, xs8, xs9, xs10, xs11, xs12, xs13, xs14, xs15, xs16, xs17, xv1, xv2, xv3, xv4, xv5, xv6, xv7, xv8, xv9, xv10, xv11, xv12, xv13, xv14, xv15, xv16, xv17, xv18, xv19, xv20, xv21, xv22, xv23, xv24, xv25, xv26, xv27, xt1, xt2, xt3, xt4, xt5, xt6, xt8, xt12, xt13, xt14, xt15, xt23, xt27, xt28, xt29, xt30, xt31, xt32, xt33, getF, selfOk, getN, setF, putN, F7, fCur, fC, fL, fLb, cmpM, rF, rT, subM, slcM, endsM, lenM, asBool, e1, e2, hp]
theorem replace_is (s : List Nat) {a b c : Nat} (hab : a < b) (hb : b ≤ w.length) (hc : c ≤ a) (hz : w.length + s.length ≤ 500) (lm lb br kt p : Int) :
    orc tb (k + 1) .replaceS [.int a, .int b, .str s] (some (F7 w c lm lb br kt p)) = some (.int ((s.length : Int) - ((b : Int) - a)), some (F7 (w.take a ++ s ++ w.drop b) c (lm + ((s.length : Int) - ((b : Int) - a))) lb br kt p)) := by
  have e1 : (0 : Int) ≤ a ∧ (a : Int) ≤ w.length := by omega
  have e2 : (0 : Int) ≤ b := by omega
  have e3 : ¬ ((b : Int) ≤ c) := by omega
  have e4 : ¬ ((a : Int) < c) := by omega
  have e5 : (a : Int).toNat = a := by omega
  have e6 : (w.take a).length + s.length ≤ 1000 := by rw [List.length_take]; omega
  have e7 : (w.take a ++ s).length + (w.drop b).length ≤ 1000 := by rw [List.length_append, List.length_take, List.length_drop]; omega
  have e8 : ((a : Int) - 0).toNat = a := by omega
  simp only [List.length_take, List.length_append, List.length_drop] at e6 e7
  simp [orc, tab_rep, runM, bReplaceS, blk, exs, xs1, xs2, xs3, xs4, xs5, xs6, xs7, xs8, xs9, xs10, xs11, xs12, xs13, xs14, xs15, xs16, xs17, xv1, xv2, xv3, xv4, xv5, xv6, xv7, xv8, xv9, xv10, xv11, xv12, xv13, xv14, xv15, xv16, xv17, xv18, xv19, xv20, xv21, xv22, xv23, xv24, xv25, xv26, xv27, xt1, xt2, xt3, xt4, xt5, xt6, xt8, xt12, xt13, xt14, xt15, xt23, xt27, xt28, xt29, xt30, xt31, xt32, xt33, getF, selfOk, getN, setL, setF, putN, F7, fCur, fC, fL, fLb, cmpM, subM, addM, slcM, slcFromM, lenM, e1, e2, e3, e4, e5, e8, e6, e7]
end
end DaWalk
open PySem PySem.W PyProof.Rows DaHead
set_option Elab.async false
set_option linter.unusedVariables false
set_option linter.constructorNameAsVariable false
set_option linter.unusedSimpArgs false
set_option maxRecDepth 100000
namespace DaWalk
section
variable (w : List Nat) (k : Nat)
theorem sliceFrom_is (s : List Nat) {c b n : Nat} (hb : b < n) (hn : n = w.length) (hc : c ≤ b) (hz : w.length + s.length ≤ 500) (lb p : Int) :
    orc tb (k + 2) .sliceFrom [.str s] (some (F7 w c n lb b n p)) = some (.none, some (F7 (w.take b ++ s) c (b + s.length : Nat) lb b (b + s.length : Nat) p)) := by
  have hr := replace_is w k s hb (by omega : n ≤ w.length) hc hz n lb b n p
  have ed : w.drop n = [] := List.drop_eq_nil_of_le (by omega)
  rw [ed, List.append_nil] at hr
  have e1 : (b : Int) ≤ n := by omega
  have e2 : (n : Int) ≤ w.length := by omega
  have e3 : (n : Int) + ((s.length : Int) - ((n : Int) - b)) = (b + s.length : Nat) := by omega
  have e4 : (b : Int) + s.length = (b + s.length : Nat) := by omega
  rw [e3] at hr
  simp only [F7] at hr ⊢
  refine orc_next (ps := [.s]) (b := bSliceFrom) (lc := [(.self, .self), (.s, .str s)]) rfl rfl ?_
  simp [bSliceFrom, bChecks, blk, exs, xs1, xs2, xs3, xs4, xs5, xs6, xs7, xs8, xs9, xs10, xs11, xs12, xs13, xs14, xs15, xs16, xs17, xv1, xv2, xv3, xv4, xv5, xv6, xv7, xv8, xv9, xv10, xv11, xv12, xv13, xv14, xv15, xv16, xv17, xv18, xv19, xv20, xv21, xv22, xv23, xv24, xv25, xv26, xv27, xt1, xt2, xt3, xt4, xt5, xt6, xt8, xt12, xt13, xt14, xt15, xt23, xt27, xt28, xt29, xt30, xt31, xt32, xt33, getF, selfOk, methOk, callM, getN, setL, setF, putN, fCur, fC, fL, fLb, fB, fK, cmpM, subM, addM, lenM, e1, e2, hr]
theorem sliceDel_is {c b n : Nat} (hb : b < n) (hn : n = w.length) (hc : c ≤ b) (hz : w.length ≤ 500) (lb p : Int) :
    orc tb (k + 3) .sliceDel [] (some (F7 w c n lb b n p)) = some (.none, some (F7 (w.take b) c b lb b b p)) := by
  have hr := sliceFrom_is w k [] hb hn hc (by simpa using hz) lb p
  rw [List.append_nil] at hr
  simp only [F7, List.length_nil, Nat.add_zero] at hr ⊢
  refine orc_ret (ps := []) (b := bSliceDel) (lc := [(.self, .self)]) rfl rfl ?_
  simp [bSliceDel, blk, exs, xs1, xs2, xs3, xs4, xs5, xs6, xs7, xs8, xs9, xs10, xs11, xs12, xs13, xs14, xs15, xs16, xs17, xv1, xv2, xv3, xv4, xv5, xv6, xv7, xv8, xv9, xv10, xv11, xv12, xv13, xv14, xv15, xv16, xv17, xv18, xv19, xv20, xv21, xv22, xv23, xv24, xv25, xv26, xv27, getF, selfOk, methOk, callM, getN, hr]
theorem sliceTo_is {c b n : Nat} {lm : Int} (hb : b ≤ n) (hn : (n : Int) ≤ lm) (hl : lm ≤ w.length) (lb p : Int) :
    orc tb (k + 1) .sliceTo [] (some (F7 w c lm lb b n p)) = some (.str ((w.drop b).take (n - b)), some (F7 w c lm lb b n p)) := by
  have e1 : (b : Int) ≤ n := by omega
  have e2 : (0 : Int) ≤ b ∧ (b : Int) ≤ n ∧ (n : Int) ≤ w.length := by omega
  have e3 : ((n : Int) - b).toNat = n - b := by omega
  simp only [F7]
  refine orc_ret (ps := []) (b := bSliceTo) (lc := [(.self, .self)]) rfl rfl ?_
  simp [bSliceTo, bChecks, blk, exs, xs1, xs2, xs3, xs4, xs5, xs6, xs7, xs8, xs9, xs10, xs11, xs12, xs13, xs14, xs15, xs16, xs17, xv1, xv2, xv3, xv4, xv5, xv6, xv7, xv8, xv9, xv10, xv11, xv12, xv13, xv14, xv15, xv16, xv17, xv18, xv19, xv20, xv21, xv22, xv23, xv24, xv25, xv26, xv27, xt1, xt2, xt3, xt4, xt5, xt6, xt8, xt12, xt13, xt14, xt15, xt23, xt27, xt28, xt29, xt30, xt31, xt32, xt33, getF, selfOk, getN, fCur, fC, fL, fLb, fB, fK, cmpM, slcM, lenM, e1, e2, e3, hn, hl]
theorem getCurrent_is (lb b c lm kt p : Int) : orc tb (k + 1) .getCurrent [] (some (F7 w c lm lb b kt p)) = some (.str w, some (F7 w c lm lb b kt p)) := by
  simp only [F7]
  refine orc_ret (ps := []) (b := bGetCurrent) (lc := [(.self, .self)]) rfl rfl ?_
  simp [bGetCurrent, blk, exs, xs1, xs2, xs3, xs4, xs5, xs6, xs7, xs8, xs9, xs10, xs11, xs12, xs13, xs14, xs15, xs16, xs17, xv1, xv2, xv3, xv4, xv5, xv6, xv7, xv8, xv9, xv10, xv11, xv12, xv13, xv14, xv15, xv16, xv17, xv18, xv19, xv20, xv21, xv22, xv23, xv24, xv25, xv26, xv27, getF, selfOk, getN, fCur]
end
end DaWalk
open PySem PySem.W PyProof.Rows DaHead
set_option Elab.async false
set_option linter.unusedVariables false
set_option linter.constructorNameAsVariable false
set_option linter.unusedSimpArgs false
set_option maxRecDepth 100000
namespace DaWalk
noncomputable def bW2 : MS := blk [.try_ (blk [.ifs (.or (.cmp .Eq fC fL) (.cmp .NotEq (.idx fCur fC) (.str [39]))) (blk [.raise_ .lab2]) .nil, .addF .cursor (.int 1), .brk]) .lab2,
          .ifs (.cmp .GtE fC fL) (blk [.raise_ .lab1]) .nil, .addF .cursor (.int 1)]
noncomputable def bW1 : MS := blk [.asgL .v2 fC,
      .try_ (blk [.whil (.bool true) bW2, .brk]) .lab1,
      .asgF .cursor (.loc .v2), .ifs (.not (.call1 .goOut (.clsv .gV))) (blk [.raise_ .lab0]) .nil, .addF .cursor (.int 1), .ifs (.not (.call1 .goIn (.clsv .gV))) (blk [.raise_ .lab0]) .nil, .addF .cursor (.int 1), .brk]
noncomputable def bM2 : MS := blk [.asgL .v1 fC, .try_ (blk [.whil (.bool true) bW1, .asgF .ip1 fC]) .lab0,
  .asgF .cursor (.loc .v1), .asgL .v3 fC, .ifs (.cmp .Gt (.add fC (.int 3)) fL) (blk [rF]) .nil, .addF .cursor (.int 3),
  .try_ (blk [.ifs (.cmp .GtE fP fC) (blk [.raise_ .lab0]) .nil, .asgF .ip1 fC]) .lab0, .asgF .cursor (.loc .v3), rT]
theorem bRMark_eq : bRMark = .cons (.asgF .ip1 fL) bM2 := rfl
/-- behind the apostrophe, or behind the first sign that is no vowel after a vowel, or the end -/
noncomputable def isApo : Nat → Bool := fun x => x == 39
noncomputable def isV : Nat → Bool := fun x => sV.contains x
noncomputable def notV : Nat → Bool := fun x => !sV.contains x
noncomputable def mark (w : List Nat) : Nat :=
  if firstAt isApo w 0 < w.length then firstAt isApo w 0 + 1
  else if firstAt isV w 0 < w.length then (if firstAt notV w (firstAt isV w 0 + 1) < w.length then firstAt notV w (firstAt isV w 0 + 1) + 1 else w.length)
  else w.length
section
variable (w : List Nat) (k : Nat) (O : Orc)
noncomputable abbrev lV : List (Nm × MV) := [(.self, .self), (.v1, .int 0), (.v2, .int 0)]
noncomputable abbrev nL (w : List Nat) : Int := w.length
theorem w2_hit {c : Nat} (hc : c < w.length) (hp : isApo w[c] = true) : exs tb O bW2 ⟨lV, some (F7 w c (nL w) 0 0 (nL w) (nL w))⟩ = some (.brk, ⟨lV, some (F7 w (c + 1 : Nat) (nL w) 0 0 (nL w) (nL w))⟩) := by
  have hg : w[c]? = some w[c] := List.getElem?_eq_getElem hc
  have hp' : w[c] = 39 := by simpa [isApo] using hp
  have e1 : ¬ ((c : Int) = (w.length : Int)) := by omega
  simp [bW2, blk, exs, xs1, xs2, xs3, xs4, xs5, xs6, xs7, xs8, xs9, xs10, xs11, xs12, xs13, xs14, xs15, xs16, xs17, xv1, xv2, xv3, xv4, xv5, xv6, xv7, xv8, xv9, xv10, xv11, xv12, xv13, xv14, xv15, xv16, xv17, xv18, xv19, xv20, xv21, xv22, xv23, xv24, xv25, xv26, xv27, xt1, xt2, xt3, xt4, xt5, xt6, xt8, xt12, xt13, xt14, xt15, xt23, xt27, xt28, xt29, xt30, xt31, xt32, xt33, getF, selfOk, getN, setF, putN, F7, fCur, fC, fL, cmpM, idxM, isLoc, addM, hg, hp', e1, nL]
theorem w2_on {c : Nat} (hc : c < w.length) (hp : isApo w[c] = false) : exs tb O bW2 ⟨lV, some (F7 w c (nL w) 0 0 (nL w) (nL w))⟩ = some (.next, ⟨lV, some (F7 w (c + 1 : Nat) (nL w) 0 0 (nL w) (nL w))⟩) := by
  have hg : w[c]? = some w[c] := List.getElem?_eq_getElem hc
  have hp' : ¬ w[c] = 39 := by simpa [isApo] using hp
  have e1 : ¬ ((c : Int) = (w.length : Int)) := by omega
  have e2 : ¬ ((w.length : Int) ≤ (c : Int)) := by omega
  simp [bW2, blk, exs, xs1, xs2, xs3, xs4, xs5, xs6, xs7, xs8, xs9, xs10, xs11, xs12, xs13, xs14, xs15, xs16, xs17, xv1, xv2, xv3, xv4, xv5, xv6, xv7, xv8, xv9, xv10, xv11, xv12, xv13, xv14, xv15, xv16, xv17, xv18, xv19, xv20, xv21, xv22, xv23, xv24, xv25, xv26, xv27, xt1, xt2, xt3, xt4, xt5, xt6, xt8, xt12, xt13, xt14, xt15, xt23, xt27, xt28, xt29, xt30, xt31, xt32, xt33, getF, selfOk, getN, setF, putN, F7, fCur, fC, fL, cmpM, idxM, isLoc, addM, hg, hp', e1, e2, nL]
theorem w2_end : exs tb O bW2 ⟨lV, some (F7 w (nL w) (nL w) 0 0 (nL w) (nL w))⟩ = some (.exc .lab1, ⟨lV, some (F7 w (nL w) (nL w) 0 0 (nL w) (nL w))⟩) := by
  simp [bW2, blk, exs, xs1, xs2, xs3, xs4, xs5, xs6, xs7, xs8, xs9, xs10, xs11, xs12, xs13, xs14, xs15, xs16, xs17, xv1, xv2, xv3, xv4, xv5, xv6, xv7, xv8, xv9, xv10, xv11, xv12, xv13, xv14, xv15, xv16, xv17, xv18, xv19, xv20, xv21, xv22, xv23, xv24, xv25, xv26, xv27, xt1, xt2, xt3, xt4, xt5, xt6, xt8, xt12, xt13, xt14, xt15, xt23, xt27, xt28, xt29, xt30, xt31, xt32, xt33, getF, selfOk, getN, setF, putN, F7, fCur, fC, fL, cmpM, idxM, isLoc, addM, nL]
theorem t_true (σ : St) : evT tb O (.bool true) σ = some (true, σ) := rfl
theorem w2_loop : ∀ (n c : Nat), c ≤ w.length → w.length - c < n → loopW (evT tb O (.bool true)) (exs tb O bW2) n ⟨lV, some (F7 w c (nL w) 0 0 (nL w) (nL w))⟩ =
      some (if firstAt isApo w c < w.length then (.next, ⟨lV, some (F7 w (firstAt isApo w c + 1 : Nat) (nL w) 0 0 (nL w) (nL w))⟩) else (.exc .lab1, ⟨lV, some (F7 w (nL w) (nL w) 0 0 (nL w) (nL w))⟩))
  | 0, c, h, hn => absurd hn (Nat.not_lt_zero _)
  | n + 1, c, h, hn => by
    by_cases hc : c < w.length
    · cases hp : isApo w[c]
      · rw [loopW_turn (t_true O _) (w2_on w O hc hp), w2_loop n (c + 1) hc (by omega), firstAt_step _ w hc hp]
      · rw [loopW_brk (t_true O _) (w2_hit w O hc hp), firstAt_hit _ w hc hp, if_pos hc]
    · have hc' : c = w.length := by omega
      subst hc'
      rw [loopW_exc (t_true O _) (w2_end w O), firstAt_end _ w (Nat.le_refl _), if_neg (by omega)]
end
section
variable (w : List Nat) (k : Nat)
/-- one turn of the outer loop is all -/
theorem w1_apo (hz : w.length < 100) (h : firstAt isApo w 0 < w.length) : exs tb (orc tb (k + 1)) bW1 ⟨[(.self, .self), (.v1, .int 0)], some (F7 w 0 (nL w) 0 0 (nL w) (nL w))⟩ =
    some (.brk, ⟨lV, some (F7 w (firstAt isApo w 0 + 1 : Nat) (nL w) 0 0 (nL w) (nL w))⟩) := by
  have hl : ex1 tb (orc tb (k + 1)) (.whil (.bool true) bW2) ⟨lV, some (F7 w (0 : Nat) (nL w) 0 0 (nL w) (nL w))⟩ = _ := w2_loop w (orc tb (k + 1)) 100 0 (Nat.zero_le _) (by omega)
  rw [if_pos h] at hl
  unfold bW1
  refine (exs_next (r := blk _) (τ := ⟨lV, some (F7 w 0 (nL w) 0 0 (nL w) (nL w))⟩) (by first | rfl | simp [xs1, xs2, xs3, xs4, xs5, xs6, xs7, xs8, xs9, xs10, xs11, xs12, xs13, xs14, xs15, xs16, xs17, xv1, xv2, xv3, xv4, xv5, xv6, xv7, xv8, xv9, xv10, xv11, xv12, xv13, xv14, xv15, xv16, xv17, xv18, xv19, xv20, xv21, xv22, xv23, xv24, xv25, xv26, xv27, getF, selfOk, getN, setL, putN, F7])).trans ?_
  refine exs_out (o := .brk) ?_ (by simp)
  have hb : exs tb (orc tb (k + 1)) (blk [.whil (.bool true) bW2, .brk]) ⟨lV, some (F7 w 0 (nL w) 0 0 (nL w) (nL w))⟩ = some (.brk, ⟨lV, some (F7 w (firstAt isApo w 0 + 1 : Nat) (nL w) 0 0 (nL w) (nL w))⟩) :=
    (exs_next (r := blk [.brk]) hl).trans (exs_out (o := .brk) rfl (by simp))
  simp only [xs1, xs2, xs3, xs4, xs5, xs6, xs7, xs8, xs9, xs10, xs11, xs12, xs13, xs14, xs15, xs16, xs17]
  rw [hb]
  rfl
theorem w1_not (hz : w.length < 100) (h : ¬ firstAt isApo w 0 < w.length) : exs tb (orc tb (k + 1)) bW1 ⟨[(.self, .self), (.v1, .int 0)], some (F7 w 0 (nL w) 0 0 (nL w) (nL w))⟩ =
    some (if firstAt isV w 0 < w.length then (if firstAt notV w (firstAt isV w 0 + 1) < w.length then (.brk, ⟨lV, some (F7 w (firstAt notV w (firstAt isV w 0 + 1) + 1 : Nat) (nL w) 0 0 (nL w) (nL w))⟩) else (.exc .lab0, ⟨lV, some (F7 w (nL w) (nL w) 0 0 (nL w) (nL w))⟩))
      else (.exc .lab0, ⟨lV, some (F7 w (nL w) (nL w) 0 0 (nL w) (nL w))⟩)) := by
  have hl : ex1 tb (orc tb (k + 1)) (.whil (.bool true) bW2) ⟨lV, some (F7 w (0 : Nat) (nL w) 0 0 (nL w) (nL w))⟩ = _ := w2_loop w (orc tb (k + 1)) 100 0 (Nat.zero_le _) (by omega)
  rw [if_neg h] at hl
  unfold bW1
  refine (exs_next (r := blk _) (τ := ⟨lV, some (F7 w 0 (nL w) 0 0 (nL w) (nL w))⟩) (by first | rfl | simp [xs1, xs2, xs3, xs4, xs5, xs6, xs7, xs8, xs9, xs10, xs11, xs12, xs13, xs14, xs15, xs16, xs17, xv1, xv2, xv3, xv4, xv5, xv6, xv7, xv8, xv9, xv10, xv11, xv12, xv13, xv14, xv15, xv16, xv17, xv18, xv19, xv20, xv21, xv22, xv23, xv24, xv25, xv26, xv27, getF, selfOk, getN, setL, putN, F7])).trans ?_
  have hb : exs tb (orc tb (k + 1)) (blk [.whil (.bool true) bW2, .brk]) ⟨lV, some (F7 w 0 (nL w) 0 0 (nL w) (nL w))⟩ = some (.exc .lab1, ⟨lV, some (F7 w (nL w) (nL w) 0 0 (nL w) (nL w))⟩) :=
    exs_out (r := blk [.brk]) hl (by simp)
  refine (exs_next (r := blk _) (τ := ⟨lV, some (F7 w (nL w) (nL w) 0 0 (nL w) (nL w))⟩) (by simp only [xs1, xs2, xs3, xs4, xs5, xs6, xs7, xs8, xs9, xs10, xs11, xs12, xs13, xs14, xs15, xs16, xs17]; rw [hb]; rfl)).trans ?_
  refine (exs_next (r := blk _) (τ := ⟨lV, some (F7 w 0 (nL w) 0 0 (nL w) (nL w))⟩) (by first | rfl | simp [xs1, xs2, xs3, xs4, xs5, xs6, xs7, xs8, xs9, xs10, xs11, xs12, xs13, xs14, xs15, xs16, xs17, xv1, xv2, xv3, xv4, xv5, xv6, xv7, xv8, xv9, xv10, xv11, xv12, xv13, xv14, xv15, xv16, xv17, xv18, xv19, xv20, xv21, xv22, xv23, xv24, xv25, xv26, xv27, getN, selfOk, setF, putN, F7])).trans ?_
  have hO : orc tb (k + 1) .goOut [.sset sV] (some (F7 w (0 : Nat) w.length 0 0 (nL w) (nL w))) = some (if firstAt isV w 0 < w.length then (.bool true, some (F7 w (firstAt isV w 0 : Nat) w.length 0 0 (nL w) (nL w))) else (.bool false, some (F7 w w.length w.length 0 0 (nL w) (nL w)))) := goOut_is sV w 0 0 (nL w) (nL w) k 0 (Nat.zero_le _) hz
  by_cases h1 : firstAt isV w 0 < w.length
  · rw [if_pos h1]
    rw [if_pos h1] at hO
    have hI : orc tb (k + 1) .goIn [.sset sV] (some (F7 w (firstAt isV w 0 + 1 : Nat) w.length 0 0 (nL w) (nL w))) = some (if firstAt notV w (firstAt isV w 0 + 1) < w.length then (.bool true, some (F7 w (firstAt notV w (firstAt isV w 0 + 1) : Nat) w.length 0 0 (nL w) (nL w))) else (.bool false, some (F7 w w.length w.length 0 0 (nL w) (nL w)))) := goIn_is sV w 0 0 (nL w) (nL w) k (firstAt isV w 0 + 1) h1 hz
    refine (exs_next (r := blk _) (τ := ⟨lV, some (F7 w (firstAt isV w 0 : Nat) (nL w) 0 0 (nL w) (nL w))⟩) ?_).trans ?_
    · simp only [F7] at hO
      simp [xs1, xs2, xs3, xs4, xs5, xs6, xs7, xs8, xs9, xs10, xs11, xs12, xs13, xs14, xs15, xs16, xs17, xv1, xv2, xv3, xv4, xv5, xv6, xv7, xv8, xv9, xv10, xv11, xv12, xv13, xv14, xv15, xv16, xv17, xv18, xv19, xv20, xv21, xv22, xv23, xv24, xv25, xv26, xv27, xt1, xt2, xt3, xt4, xt5, xt6, xt8, xt12, xt13, xt14, xt15, xt23, xt27, xt28, xt29, xt30, xt31, xt32, xt33, getF, selfOk, methOk, callM, getN, F7, show tb.cls .gV = some (.sset sV) from rfl, asBool, exs, nL] at hO ⊢
      rw [hO]
      simp
    refine (exs_next (r := blk _) (τ := ⟨lV, some (F7 w (firstAt isV w 0 + 1 : Nat) (nL w) 0 0 (nL w) (nL w))⟩) (by first | rfl | simp [xs1, xs2, xs3, xs4, xs5, xs6, xs7, xs8, xs9, xs10, xs11, xs12, xs13, xs14, xs15, xs16, xs17, xv1, xv2, xv3, xv4, xv5, xv6, xv7, xv8, xv9, xv10, xv11, xv12, xv13, xv14, xv15, xv16, xv17, xv18, xv19, xv20, xv21, xv22, xv23, xv24, xv25, xv26, xv27, getF, getN, selfOk, setF, putN, addM, F7])).trans ?_
    by_cases h2 : firstAt notV w (firstAt isV w 0 + 1) < w.length
    · rw [if_pos h2]
      rw [if_pos h2] at hI
      refine (exs_next (r := blk _) (τ := ⟨lV, some (F7 w (firstAt notV w (firstAt isV w 0 + 1) : Nat) (nL w) 0 0 (nL w) (nL w))⟩) ?_).trans ?_
      · simp only [F7] at hI
        simp [xs1, xs2, xs3, xs4, xs5, xs6, xs7, xs8, xs9, xs10, xs11, xs12, xs13, xs14, xs15, xs16, xs17, xv1, xv2, xv3, xv4, xv5, xv6, xv7, xv8, xv9, xv10, xv11, xv12, xv13, xv14, xv15, xv16, xv17, xv18, xv19, xv20, xv21, xv22, xv23, xv24, xv25, xv26, xv27, xt1, xt2, xt3, xt4, xt5, xt6, xt8, xt12, xt13, xt14, xt15, xt23, xt27, xt28, xt29, xt30, xt31, xt32, xt33, getF, selfOk, methOk, callM, getN, F7, show tb.cls .gV = some (.sset sV) from rfl, asBool, exs, nL] at hI ⊢
        rw [hI]
        simp
      · simp [blk, exs, xs1, xs2, xs3, xs4, xs5, xs6, xs7, xs8, xs9, xs10, xs11, xs12, xs13, xs14, xs15, xs16, xs17, xv1, xv2, xv3, xv4, xv5, xv6, xv7, xv8, xv9, xv10, xv11, xv12, xv13, xv14, xv15, xv16, xv17, xv18, xv19, xv20, xv21, xv22, xv23, xv24, xv25, xv26, xv27, getF, getN, selfOk, setF, putN, addM, F7]
    · rw [if_neg h2]
      rw [if_neg h2] at hI
      refine exs_out (o := .exc .lab0) ?_ (by simp)
      simp only [F7] at hI
      simp [xs1, xs2, xs3, xs4, xs5, xs6, xs7, xs8, xs9, xs10, xs11, xs12, xs13, xs14, xs15, xs16, xs17, xv1, xv2, xv3, xv4, xv5, xv6, xv7, xv8, xv9, xv10, xv11, xv12, xv13, xv14, xv15, xv16, xv17, xv18, xv19, xv20, xv21, xv22, xv23, xv24, xv25, xv26, xv27, xt1, xt2, xt3, xt4, xt5, xt6, xt8, xt12, xt13, xt14, xt15, xt23, xt27, xt28, xt29, xt30, xt31, xt32, xt33, getF, selfOk, methOk, callM, getN, F7, show tb.cls .gV = some (.sset sV) from rfl, asBool, exs, blk, nL] at hI ⊢
      rw [hI]
      simp
  · rw [if_neg h1]
    rw [if_neg h1] at hO
    refine exs_out (o := .exc .lab0) ?_ (by simp)
    simp only [F7] at hO
    simp [xs1, xs2, xs3, xs4, xs5, xs6, xs7, xs8, xs9, xs10, xs11, xs12, xs13, xs14, xs15, xs16, xs17, xv1, xv2, xv3, xv4, xv5, xv6, xv7, xv8, xv9, xv10, xv11, xv12, xv13, xv14, xv15, xv16, xv17, xv18, xv19, xv20, xv21, xv22, xv23, xv24, xv25, xv26, xv27, xt1, xt2, xt3, xt4, xt5, xt6, xt8, xt12, xt13, xt14, xt15, xt23, xt27, xt28, xt29, xt30, xt31, xt32, xt33, getF, selfOk, methOk, callM, getN, F7, show tb.cls .gV = some (.sset sV) from rfl, asBool, exs, blk, nL] at hO ⊢
    rw [hO]
    simp
theorem rMark_from (hz : w.length < 100) : exs tb (orc tb (k + 1)) bM2 ⟨[(.self, .self)], some (F7 w 0 (nL w) 0 0 (nL w) (nL w))⟩ =
    some (.ret (.bool (decide (3 ≤ w.length))), ⟨[(.self, .self), (.v1, .int 0), (.v2, .int 0), (.v3, .int 0)], some (F7 w 0 (nL w) 0 0 (nL w) (if 3 ≤ w.length then Nat.max 3 (mark w) else mark w : Nat))⟩) := by
  -- behind the first try
  have first : ex1 tb (orc tb (k + 1)) (.try_ (blk [.whil (.bool true) bW1, .asgF .ip1 fC]) .lab0) ⟨[(.self, .self), (.v1, .int 0)], some (F7 w 0 (nL w) 0 0 (nL w) (nL w))⟩ = some (.next, ⟨lV, some (F7 w (mark w : Nat) (nL w) 0 0 (nL w) (mark w : Nat))⟩) := by
    have brk : ∀ q : Nat, exs tb (orc tb (k + 1)) bW1 ⟨[(.self, .self), (.v1, .int 0)], some (F7 w 0 (nL w) 0 0 (nL w) (nL w))⟩ = some (.brk, ⟨lV, some (F7 w q (nL w) 0 0 (nL w) (nL w))⟩) →
        ex1 tb (orc tb (k + 1)) (.try_ (blk [.whil (.bool true) bW1, .asgF .ip1 fC]) .lab0) ⟨[(.self, .self), (.v1, .int 0)], some (F7 w 0 (nL w) 0 0 (nL w) (nL w))⟩ = some (.next, ⟨lV, some (F7 w q (nL w) 0 0 (nL w) q)⟩) := by
      intro q hq
      have hw : ex1 tb (orc tb (k + 1)) (.whil (.bool true) bW1) ⟨[(.self, .self), (.v1, .int 0)], some (F7 w 0 (nL w) 0 0 (nL w) (nL w))⟩ = _ := loopW_brk (k := 99) (t_true (orc tb (k + 1)) _) hq
      have hb := exs_next (r := blk [.asgF .ip1 fC]) hw
      simp only [xs1, xs2, xs3, xs4, xs5, xs6, xs7, xs8, xs9, xs10, xs11, xs12, xs13, xs14, xs15, xs16, xs17]
      rw [show blk [.whil (.bool true) bW1, .asgF .ip1 fC] = .cons (.whil (.bool true) bW1) (blk [.asgF .ip1 fC]) from rfl, hb]
      simp [blk, exs, xs1, xs2, xs3, xs4, xs5, xs6, xs7, xs8, xs9, xs10, xs11, xs12, xs13, xs14, xs15, xs16, xs17, xv1, xv2, xv3, xv4, xv5, xv6, xv7, xv8, xv9, xv10, xv11, xv12, xv13, xv14, xv15, xv16, xv17, xv18, xv19, xv20, xv21, xv22, xv23, xv24, xv25, xv26, xv27, getF, getN, selfOk, setF, putN, F7, fC]
    have exc : exs tb (orc tb (k + 1)) bW1 ⟨[(.self, .self), (.v1, .int 0)], some (F7 w 0 (nL w) 0 0 (nL w) (nL w))⟩ = some (.exc .lab0, ⟨lV, some (F7 w (nL w) (nL w) 0 0 (nL w) (nL w))⟩) →
        ex1 tb (orc tb (k + 1)) (.try_ (blk [.whil (.bool true) bW1, .asgF .ip1 fC]) .lab0) ⟨[(.self, .self), (.v1, .int 0)], some (F7 w 0 (nL w) 0 0 (nL w) (nL w))⟩ = some (.next, ⟨lV, some (F7 w (nL w) (nL w) 0 0 (nL w) (nL w))⟩) := by
      intro hq
      have hw : ex1 tb (orc tb (k + 1)) (.whil (.bool true) bW1) ⟨[(.self, .self), (.v1, .int 0)], some (F7 w 0 (nL w) 0 0 (nL w) (nL w))⟩ = _ := loopW_exc (k := 99) (t_true (orc tb (k + 1)) _) hq
      have hb := exs_out (r := blk [.asgF .ip1 fC]) hw (by simp)
      simp only [xs1, xs2, xs3, xs4, xs5, xs6, xs7, xs8, xs9, xs10, xs11, xs12, xs13, xs14, xs15, xs16, xs17]
      rw [show blk [.whil (.bool true) bW1, .asgF .ip1 fC] = .cons (.whil (.bool true) bW1) (blk [.asgF .ip1 fC]) from rfl, hb]
      rfl
    unfold mark
    by_cases h0 : firstAt isApo w 0 < w.length
    · rw [if_pos h0]
      exact brk _ (w1_apo w k hz h0)
    · rw [if_neg h0]
      have h := w1_not w k hz h0
      by_cases h1 : firstAt isV w 0 < w.length
      · rw [if_pos h1] at h ⊢
        by_cases h2 : firstAt notV w (firstAt isV w 0 + 1) < w.length
        · rw [if_pos h2] at h ⊢
          exact brk _ h
        · rw [if_neg h2] at h ⊢
          exact exc h
      · rw [if_neg h1] at h ⊢
        exact exc h
  unfold bM2
  refine (exs_next (r := blk _) (τ := ⟨[(.self, .self), (.v1, .int 0)], some (F7 w 0 (nL w) 0 0 (nL w) (nL w))⟩) (by first | rfl | simp [xs1, xs2, xs3, xs4, xs5, xs6, xs7, xs8, xs9, xs10, xs11, xs12, xs13, xs14, xs15, xs16, xs17, xv1, xv2, xv3, xv4, xv5, xv6, xv7, xv8, xv9, xv10, xv11, xv12, xv13, xv14, xv15, xv16, xv17, xv18, xv19, xv20, xv21, xv22, xv23, xv24, xv25, xv26, xv27, getF, selfOk, getN, setL, putN, F7])).trans ?_
  refine (exs_next (r := blk _) first).trans ?_
  by_cases h3 : 3 ≤ w.length
  · have e1 : ¬ ((w.length : Int) < 3) := by omega
    rw [if_pos h3, decide_eq_true h3]
    by_cases h4 : 3 ≤ mark w
    · have e2 : (3 : Int) ≤ (mark w : Int) := by omega
      have e3 : Nat.max 3 (mark w) = mark w := Nat.max_eq_right h4
      rw [e3]
      simp [blk, exs, xs1, xs2, xs3, xs4, xs5, xs6, xs7, xs8, xs9, xs10, xs11, xs12, xs13, xs14, xs15, xs16, xs17, xv1, xv2, xv3, xv4, xv5, xv6, xv7, xv8, xv9, xv10, xv11, xv12, xv13, xv14, xv15, xv16, xv17, xv18, xv19, xv20, xv21, xv22, xv23, xv24, xv25, xv26, xv27, xt1, xt2, xt3, xt4, xt5, xt6, xt8, xt12, xt13, xt14, xt15, xt23, xt27, xt28, xt29, xt30, xt31, xt32, xt33, getF, getN, selfOk, setF, setL, putN, addM, cmpM, F7, fC, fL, fP, rF, rT, e1, e2, nL]
    · have e2 : ¬ (3 : Int) ≤ (mark w : Int) := by omega
      have e3 : Nat.max 3 (mark w) = 3 := Nat.max_eq_left (by omega)
      rw [e3]
      simp [blk, exs, xs1, xs2, xs3, xs4, xs5, xs6, xs7, xs8, xs9, xs10, xs11, xs12, xs13, xs14, xs15, xs16, xs17, xv1, xv2, xv3, xv4, xv5, xv6, xv7, xv8, xv9, xv10, xv11, xv12, xv13, xv14, xv15, xv16, xv17, xv18, xv19, xv20, xv21, xv22, xv23, xv24, xv25, xv26, xv27, xt1, xt2, xt3, xt4, xt5, xt6, xt8, xt12, xt13, xt14, xt15, xt23, xt27, xt28, xt29, xt30, xt31, xt32, xt33, getF, getN, selfOk, setF, setL, putN, addM, cmpM, F7, fC, fL, fP, rF, rT, e1, e2, nL]
  · have e1 : ((w.length : Int) < 3) := by omega
    rw [if_neg h3, decide_eq_false h3]
    simp [blk, exs, xs1, xs2, xs3, xs4, xs5, xs6, xs7, xs8, xs9, xs10, xs11, xs12, xs13, xs14, xs15, xs16, xs17, xv1, xv2, xv3, xv4, xv5, xv6, xv7, xv8, xv9, xv10, xv11, xv12, xv13, xv14, xv15, xv16, xv17, xv18, xv19, xv20, xv21, xv22, xv23, xv24, xv25, xv26, xv27, xt1, xt2, xt3, xt4, xt5, xt6, xt8, xt12, xt13, xt14, xt15, xt23, xt27, xt28, xt29, xt30, xt31, xt32, xt33, getF, getN, selfOk, setF, setL, putN, addM, cmpM, F7, fC, fL, fP, rF, rT, e1, nL]
noncomputable def reg (w : List Nat) : Nat := if 3 ≤ w.length then Nat.max 3 (mark w) else mark w
theorem rMark_6 (hz : w.length < 100) : orc tb (k + 2) .rMark [] (some (F6 w 0 (nL w) 0 0 (nL w))) = some (.bool (decide (3 ≤ w.length)), some (F7 w 0 (nL w) 0 0 (nL w) (reg w : Nat))) := by
  apply orc_ret (ps := []) (b := bRMark) rfl rfl
  rw [bRMark_eq]
  exact (exs_next (r := bM2) (τ := ⟨[(.self, .self)], some (F7 w 0 (nL w) 0 0 (nL w) (nL w))⟩) (by first | rfl | simp [xs1, xs2, xs3, xs4, xs5, xs6, xs7, xs8, xs9, xs10, xs11, xs12, xs13, xs14, xs15, xs16, xs17, xv1, xv2, xv3, xv4, xv5, xv6, xv7, xv8, xv9, xv10, xv11, xv12, xv13, xv14, xv15, xv16, xv17, xv18, xv19, xv20, xv21, xv22, xv23, xv24, xv25, xv26, xv27, getF, selfOk, getN, setF, putN, F6, F7, fL])).trans (rMark_from w k hz)
theorem rMark_7 (hz : w.length < 100) (p : Int) : orc tb (k + 2) .rMark [] (some (F7 w 0 (nL w) 0 0 (nL w) p)) = some (.bool (decide (3 ≤ w.length)), some (F7 w 0 (nL w) 0 0 (nL w) (reg w : Nat))) := by
  apply orc_ret (ps := []) (b := bRMark) rfl rfl
  rw [bRMark_eq]
  exact (exs_next (r := bM2) (τ := ⟨[(.self, .self)], some (F7 w 0 (nL w) 0 0 (nL w) (nL w))⟩) (by first | rfl | simp [xs1, xs2, xs3, xs4, xs5, xs6, xs7, xs8, xs9, xs10, xs11, xs12, xs13, xs14, xs15, xs16, xs17, xv1, xv2, xv3, xv4, xv5, xv6, xv7, xv8, xv9, xv10, xv11, xv12, xv13, xv14, xv15, xv16, xv17, xv18, xv19, xv20, xv21, xv22, xv23, xv24, xv25, xv26, xv27, getF, selfOk, getN, setF, putN, F6, F7, fL])).trans (rMark_from w k hz)
end
end DaWalk
open PySem PySem.W PyProof.Rows DaHead
set_option Elab.async false
set_option linter.unusedVariables false
set_option linter.constructorNameAsVariable false
set_option linter.unusedSimpArgs false
namespace DaWalk
/-! searching a sorted table -/
noncomputable def lcp : List Nat → List Nat → Nat
  | a :: r, b :: s => if a = b then lcp r s + 1 else 0
  | _, _ => 0
noncomputable def ltL : List Nat → List Nat → Bool
  | _, [] => false
  | [], _ :: _ => true
  | a :: r, b :: s => if a = b then ltL r s else decide (a < b)
/-- one comparison, from a place on: its sign and how far it came -/
noncomputable def cg : List Nat → List Nat → Int × Nat
  | _, [] => (0, 0)
  | [], _ :: _ => (-1, 0)
  | a :: r, b :: s => if a = b then ((cg r s).1, (cg r s).2 + 1) else ((a : Int) - b, 0)
theorem cg_lcp : ∀ r s, (cg r s).2 = lcp r s
  | [], [] => rfl
  | _ :: _, [] => rfl
  | [], _ :: _ => rfl
  | a :: r, b :: s => by
    unfold cg lcp
    split
    · rw [← cg_lcp r s]
    · rfl
theorem cg_lt : ∀ r s, decide ((cg r s).1 < 0) = ltL r s
  | [], [] => rfl
  | _ :: _, [] => rfl
  | [], _ :: _ => rfl
  | a :: r, b :: s => by
    unfold cg ltL
    by_cases h : a = b
    · rw [if_pos h, if_pos h]; exact cg_lt r s
    · rw [if_neg h, if_neg h]
      congr 1
      simp only [eq_iff_iff]
      omega
theorem lcp_comm : ∀ a b, lcp a b = lcp b a
  | [], [] => rfl
  | _ :: _, [] => rfl
  | [], _ :: _ => rfl
  | x :: a, y :: b => by
    unfold lcp
    by_cases h : x = y
    · rw [if_pos h, if_pos h.symm, lcp_comm a b]
    · rw [if_neg h, if_neg (Ne.symm h)]
theorem lcp_trans : ∀ (n : Nat) {a b c : List Nat}, n ≤ lcp a b → n ≤ lcp b c → n ≤ lcp a c
  | 0, _, _, _, _, _ => Nat.zero_le _
  | n + 1, x :: a, y :: b, z :: c, h1, h2 => by
    unfold lcp at h1 h2 ⊢
    split at h1
    · split at h2
      · rename_i e1 e2
        rw [if_pos (e1.trans e2)]
        exact Nat.succ_le_succ (lcp_trans n (Nat.le_of_succ_le_succ h1) (Nat.le_of_succ_le_succ h2))
      · omega
    · omega
  | n + 1, [], _, _, h1, _ => by simp [lcp] at h1
  | n + 1, _ :: _, [], _, h1, _ => by simp [lcp] at h1
  | n + 1, _ :: _, _ :: _, [], _, h2 => by simp [lcp] at h2
theorem between : ∀ (n : Nat) {a b x : List Nat}, n ≤ lcp a b → ltL x a = false → ltL b x = false → n ≤ lcp a x
  | 0, _, _, _, _, _, _ => Nat.zero_le _
  | n + 1, p :: a, q :: b, y :: x, h, h1, h2 => by
    unfold lcp at h
    split at h
    · rename_i e
      subst e
      unfold ltL at h1 h2
      unfold lcp
      by_cases q : y = p
      · subst q
        rw [if_pos rfl] at h1 h2 ⊢
        exact Nat.succ_le_succ (between n (Nat.le_of_succ_le_succ h) h1 h2)
      · rw [if_neg q] at h1
        rw [if_neg (Ne.symm q)] at h2
        simp only [decide_eq_false_iff_not] at h1 h2
        omega
    · omega
  | n + 1, p :: a, q :: b, [], h, h1, _ => by simp [ltL] at h1
  | n + 1, [], _, _, h, _, _ => by simp [lcp] at h
  | n + 1, _ :: _, [], _, h, _, _ => by simp [lcp] at h
theorem lcp_cons {a b : Nat} {r s : List Nat} (h : a = b) : lcp (a :: r) (b :: s) = lcp r s + 1 := by simp [lcp, h]
theorem ltL_cons {a b : Nat} {r s : List Nat} (h : a = b) : ltL (a :: r) (b :: s) = ltL r s := by simp [ltL, h]
theorem drop_lcp : ∀ (n : Nat) {r s : List Nat}, n ≤ lcp r s → n + lcp (r.drop n) (s.drop n) = lcp r s ∧ ltL (r.drop n) (s.drop n) = ltL r s
  | 0, _, _, _ => ⟨by simp, by simp⟩
  | n + 1, a :: r, b :: s, h => by
    unfold lcp at h
    split at h
    · rename_i e
      obtain ⟨h1, h2⟩ := drop_lcp n (Nat.le_of_succ_le_succ h)
      simp only [List.drop_succ_cons]
      refine ⟨?_, ?_⟩
      · rw [lcp_cons e]
        omega
      · rw [h2, ltL_cons e]
    · omega
  | n + 1, [], _, h => by simp [lcp] at h
  | n + 1, _ :: _, [], h => by simp [lcp] at h
theorem ltL_irrefl : ∀ a, ltL a a = false
  | [] => rfl
  | x :: a => by unfold ltL; rw [if_pos rfl]; exact ltL_irrefl a
theorem ltL_trans : ∀ {a b c : List Nat}, ltL a b = true → ltL b c = true → ltL a c = true
  | [], [], _, h, _ => by simp [ltL] at h
  | _ :: _, [], _, h, _ => by simp [ltL] at h
  | _, _ :: _, [], _, h => by simp [ltL] at h
  | [], _ :: _, _ :: _, _, _ => rfl
  | x :: a, y :: b, z :: c, h1, h2 => by
    unfold ltL at h1 h2 ⊢
    by_cases e1 : x = y
    · rw [if_pos e1] at h1
      by_cases e2 : y = z
      · rw [if_pos e2] at h2
        rw [if_pos (e1.trans e2)]
        exact ltL_trans h1 h2
      · rw [if_neg e2] at h2
        rw [if_neg (by rw [e1]; exact e2), e1]
        exact h2
    · rw [if_neg e1] at h1
      simp only [decide_eq_true_eq] at h1
      by_cases e2 : y = z
      · subst e2
        rw [if_neg e1]; simpa using h1
      · rw [if_neg e2] at h2
        simp only [decide_eq_true_eq] at h2
        rw [if_neg (by omega)]
        simp only [decide_eq_true_eq]; omega
theorem ltL_asymm {a b : List Nat} (h : ltL a b = true) : ltL b a = false := by
  cases q : ltL b a with
  | false => rfl
  | true => have := ltL_trans h q; rw [ltL_irrefl] at this; cases this
theorem pre_ltL : ∀ {x r : List Nat}, x <+: r → ltL r x = false
  | [], r, _ => by cases r <;> rfl
  | a :: x, [], h => by simp at h
  | a :: x, b :: r, h => by
    obtain ⟨e, h⟩ := List.cons_prefix_cons.mp h
    unfold ltL
    rw [if_pos e.symm]
    exact pre_ltL h
theorem pre_between : ∀ {x r k : List Nat}, x <+: r → ltL k x = false → ltL r k = false → x <+: k
  | [], _, _, _, _, _ => List.nil_prefix
  | a :: x, [], _, h, _, _ => by simp at h
  | a :: x, b :: r, [], h, h1, _ => by simp [ltL] at h1
  | a :: x, b :: r, y :: k, h, h1, h2 => by
    obtain ⟨e, h'⟩ := List.cons_prefix_cons.mp h
    subst e
    unfold ltL at h1 h2
    by_cases q : y = a
    · subst q
      rw [if_pos rfl] at h1 h2
      exact List.cons_prefix_cons.mpr ⟨rfl, pre_between h' h1 h2⟩
    · rw [if_neg q] at h1
      rw [if_neg (Ne.symm q)] at h2
      simp only [decide_eq_false_iff_not] at h1 h2
      omega
theorem pre_lcp : ∀ {x a b : List Nat}, x <+: a → x <+: b → x.length ≤ lcp a b
  | [], _, _, _, _ => Nat.zero_le _
  | _ :: _, [], _, h, _ => by simp at h
  | _ :: _, _ :: _, [], _, h => by simp at h
  | y :: x, p :: a, q :: b, h1, h2 => by
    obtain ⟨e1, h1⟩ := List.cons_prefix_cons.mp h1
    obtain ⟨e2, h2⟩ := List.cons_prefix_cons.mp h2
    unfold lcp
    rw [if_pos (e1.symm.trans e2)]
    exact Nat.succ_le_succ (pre_lcp h1 h2)
theorem lcp_pre : ∀ {y k r : List Nat}, y <+: k → y.length ≤ lcp r k → y <+: r
  | [], _, _, _, _ => List.nil_prefix
  | _ :: _, [], _, h, _ => by simp at h
  | y :: x, q :: k, [], _, h => by simp [lcp] at h
  | y :: x, q :: k, p :: r, h, h2 => by
    obtain ⟨e, h⟩ := List.cons_prefix_cons.mp h
    unfold lcp at h2
    split at h2
    · rename_i e2
      exact List.cons_prefix_cons.mpr ⟨by rw [e, e2], lcp_pre h (Nat.le_of_succ_le_succ h2)⟩
    · simp at h2
theorem lcp_le_right : ∀ r k : List Nat, lcp r k ≤ k.length
  | [], [] => Nat.le_refl _
  | [], _ :: _ => Nat.zero_le _
  | _ :: _, [] => Nat.le_refl _
  | a :: r, b :: k => by
    unfold lcp
    split
    · exact Nat.succ_le_succ (lcp_le_right r k)
    · exact Nat.zero_le _
theorem lcp_le_left (r k : List Nat) : lcp r k ≤ r.length := by rw [lcp_comm]; exact lcp_le_right k r
end DaWalk
open PySem PySem.W PyProof.Rows DaHead
set_option Elab.async false
set_option linter.unusedVariables false
set_option linter.constructorNameAsVariable false
set_option linter.unusedSimpArgs false
namespace DaWalk
noncomputable def keyA (a : Am) : List Nat := a.s.reverse
structure BS where
  i : Nat
  j : Nat
  ci : Nat
  cj : Nat
  fki : Bool
noncomputable def cmA (r : List Nat) (x : BS) (a : Am) : Int × Nat := cg (r.drop (min x.ci x.cj)) ((keyA a).drop (min x.ci x.cj))
noncomputable def moved (r : List Nat) (x : BS) (a : Am) : BS :=
  if (cmA r x a).1 < 0 then { x with j := x.i + (x.j - x.i) / 2, cj := min x.ci x.cj + (cmA r x a).2 } else { x with i := x.i + (x.j - x.i) / 2, ci := min x.ci x.cj + (cmA r x a).2 }
noncomputable def stops (y : BS) : Bool := decide (y.j - y.i ≤ 1) && (decide (0 < y.i) || (decide (y.j = y.i) || y.fki))
noncomputable def goOn (y : BS) : BS := if y.j - y.i ≤ 1 then { y with fki := true } else y
noncomputable def bsRun (t : List Am) (r : List Nat) : Nat → BS → Option BS
  | 0, _ => none
  | f + 1, x => match t[x.i + (x.j - x.i) / 2]? with
    | none => none
    | some a => if stops (moved r x a) then some (moved r x a) else bsRun t r f (goOn (moved r x a))
noncomputable def Sorted (t : List Am) : Prop := ∀ (i j : Nat) (a b : Am), i < j → t[i]? = some a → t[j]? = some b → ltL (keyA a) (keyA b) = true
noncomputable def LeftI (t : List Am) (r : List Nat) (i ci : Nat) : Prop := ∃ a, t[i]? = some a ∧ ltL r (keyA a) = false ∧ ci = lcp r (keyA a)
structure Inv (t : List Am) (r : List Nat) (x : BS) : Prop where
  lt : x.i < x.j
  le : x.j ≤ t.length
  one : x.j = x.i + 1 → x.i = 0
  left : (x.i = 0 ∧ x.ci = 0) ∨ LeftI t r x.i x.ci
  flag : x.fki = true → x.i = 0 ∧ x.j = 1
  right : (x.j = t.length ∧ x.cj = 0) ∨ ∃ a, t[x.j]? = some a ∧ ltL r (keyA a) = true ∧ x.cj = lcp r (keyA a)
/-- where the search ends -/
noncomputable def Res (t : List Am) (r : List Nat) (i ci : Nat) : Prop :=
  (∃ a, t[i]? = some a ∧ ltL r (keyA a) = false ∧ ci = lcp r (keyA a) ∧ ∀ (m : Nat) (b : Am), i < m → t[m]? = some b → ltL r (keyA b) = true) ∨ (i = 0 ∧ ci = 0 ∧ ∀ (m : Nat) (b : Am), t[m]? = some b → ltL r (keyA b) = true)
section
variable {t : List Am} {r : List Nat}
/-- how far r and the entry agree is known to this point -/
theorem agree (hs : Sorted t) {x : BS} (I : Inv t r x) {a : Am} (ha : t[x.i + (x.j - x.i) / 2]? = some a) : min x.ci x.cj ≤ lcp r (keyA a) := by
  rcases I.left with ⟨_, h⟩ | ⟨b, hb, hlt, hci⟩
  · rw [h, Nat.zero_min]; exact Nat.zero_le _
  · by_cases hk : (x.j - x.i) / 2 = 0
    · rw [hk, Nat.add_zero, hb] at ha
      cases ha
      rw [hci]; exact Nat.min_le_left _ _
    · rcases I.right with ⟨_, h⟩ | ⟨c, hc, hlt2, hcj⟩
      · rw [h, Nat.min_zero]; exact Nat.zero_le _
      · have h1 : min x.ci x.cj ≤ lcp r (keyA b) := by rw [hci]; exact Nat.min_le_left _ _
        have h2 : min x.ci x.cj ≤ lcp r (keyA c) := by rw [hcj]; exact Nat.min_le_right _ _
        have h3 : min x.ci x.cj ≤ lcp (keyA b) (keyA c) := lcp_trans _ (by rw [lcp_comm]; exact h1) h2
        have h4 := hs _ _ _ _ (by omega) hb ha
        have h5 := hs _ _ _ _ (by have := I.lt; omega) ha hc
        exact lcp_trans _ h1 (between _ h3 (ltL_asymm h4) (ltL_asymm h5))
theorem cmA_is (hs : Sorted t) {x : BS} (I : Inv t r x) {a : Am} (ha : t[x.i + (x.j - x.i) / 2]? = some a) : min x.ci x.cj + (cmA r x a).2 = lcp r (keyA a) ∧ decide ((cmA r x a).1 < 0) = ltL r (keyA a) := by
  obtain ⟨h1, h2⟩ := drop_lcp _ (agree hs I ha)
  unfold cmA
  exact ⟨by rw [cg_lcp]; exact h1, by rw [cg_lt]; exact h2⟩
theorem later (hs : Sorted t) {j m : Nat} {a b : Am} (h : ltL r (keyA a) = true) (ha : t[j]? = some a) (hb : t[m]? = some b) (hm : j ≤ m) : ltL r (keyA b) = true := by
  rcases Nat.lt_or_eq_of_le hm with h1 | h1
  · exact ltL_trans h (hs _ _ _ _ h1 ha hb)
  · subst h1; rw [ha] at hb; cases hb; exact h
noncomputable def fuelOf (x : BS) : Nat := (x.j - x.i) + (if x.fki then 0 else 1)
theorem half_of {i j : Nat} (h : i < j) : i + (j - i) / 2 < j ∧ j ≤ i + (j - i) / 2 + (j - i) / 2 + 1 := by omega
theorem bs_ok (hs : Sorted t) : ∀ (f : Nat) {x : BS}, Inv t r x → fuelOf x < f → ∃ y, bsRun t r f x = some y ∧ Res t r y.i y.ci
  | 0, _, _, h => absurd h (Nat.not_lt_zero _)
  | f + 1, x, I, hf => by
    have hlt := I.lt
    have hle := I.le
    obtain ⟨hk, hk2⟩ := half_of hlt
    have ha : t[x.i + (x.j - x.i) / 2]? = some (t[x.i + (x.j - x.i) / 2]'(Nat.lt_of_lt_of_le hk hle)) := List.getElem?_eq_getElem (Nat.lt_of_lt_of_le hk hle)
    generalize t[x.i + (x.j - x.i) / 2]'(Nat.lt_of_lt_of_le hk hle) = a at ha
    obtain ⟨k, hkd⟩ : ∃ k, (x.j - x.i) / 2 = k := ⟨_, rfl⟩
    obtain ⟨c1, c2⟩ := cmA_is hs I ha
    rw [hkd] at ha hk hk2
    unfold bsRun
    rw [hkd, ha]
    dsimp only
    by_cases hd : (cmA r x a).1 < 0
    · rw [decide_eq_true hd] at c2
      have e : moved r x a = { x with j := x.i + k, cj := lcp r (keyA a) } := by unfold moved; rw [if_pos hd, c1, hkd]
      rw [e]
      clear hkd e
      by_cases hk0 : k = 0
      · have hx0 : x.i = 0 := I.one (by omega)
        rw [if_pos (by unfold stops; simp [hk0])]
        refine ⟨_, rfl, ?_⟩
        rcases I.left with ⟨_, h2⟩ | ⟨b, hb, h3, h4⟩
        · exact Or.inr ⟨hx0, h2, fun m b hb => later hs c2.symm ha hb (by omega)⟩
        · rw [hk0, Nat.add_zero, hb] at ha
          cases ha
          rw [h3] at c2; cases c2
      · have hfl : x.fki = false := by
          cases q : x.fki with
          | false => rfl
          | true => have := I.flag q; omega
        by_cases hone : x.i + k = x.i + 1
        · by_cases hi : 0 < x.i
          · rw [if_pos (by unfold stops; simp [hone, hi])]
            refine ⟨_, rfl, ?_⟩
            rcases I.left with ⟨h3, h4⟩ | ⟨b, hb, h3, h4⟩
            · omega
            · exact Or.inl ⟨b, hb, h3, h4, fun m c hm hc => later hs c2.symm ha hc (by dsimp only at hm; omega)⟩
          · have hi0 : x.i = 0 := by omega
            rw [if_neg (by unfold stops; rw [hfl]; simp [hone, hi])]
            unfold goOn
            rw [if_pos (by dsimp only; omega)]
            refine bs_ok hs f ⟨by dsimp only; omega, by dsimp only; omega, fun _ => hi0, I.left, fun _ => ⟨hi0, by dsimp only; omega⟩, .inr ⟨a, ha, c2.symm, rfl⟩⟩ ?_
            unfold fuelOf at hf ⊢
            rw [hfl] at hf
            simp only [Bool.false_eq_true, if_false, if_true] at hf ⊢
            omega
        · rw [if_neg (by unfold stops; simp; omega)]
          unfold goOn
          rw [if_neg (by dsimp only; omega)]
          refine bs_ok hs f ⟨by dsimp only; omega, by dsimp only; omega, (fun h => by dsimp only at h; omega), I.left, (fun h => by dsimp only at h; rw [hfl] at h; cases h), .inr ⟨a, ha, c2.symm, rfl⟩⟩ ?_
          unfold fuelOf at hf ⊢
          dsimp only
          rw [hfl] at hf ⊢
          simp only [Bool.false_eq_true, if_false] at hf ⊢
          clear hd hone hk0
          omega
    · rw [decide_eq_false hd] at c2
      have e : moved r x a = { x with i := x.i + k, ci := lcp r (keyA a) } := by unfold moved; rw [if_neg hd, c1, hkd]
      rw [e]
      clear hkd e
      have fin : x.j = x.i + k + 1 → Res t r (x.i + k) (lcp r (keyA a)) := by
        intro hj
        refine Or.inl ⟨a, ha, c2.symm, rfl, fun m b hm hb => ?_⟩
        rcases I.right with ⟨h1, _⟩ | ⟨c, hc, h2, _⟩
        · have := (List.getElem?_eq_some_iff.mp hb).1
          omega
        · exact later hs h2 hc hb (by omega)
      by_cases hone : x.j = x.i + k + 1
      · by_cases hi : 0 < x.i + k
        · rw [if_pos (by
            unfold stops
            have h1 : x.j - (x.i + k) ≤ 1 := by omega
            simp only [h1, hi, decide_true, Bool.true_or, Bool.and_self])]
          exact ⟨_, rfl, fin hone⟩
        · by_cases hfl : x.fki = true
          · rw [if_pos (by
              unfold stops
              have h1 : x.j - (x.i + k) ≤ 1 := by omega
              simp only [h1, hfl, decide_true, Bool.or_true, Bool.and_self])]
            exact ⟨_, rfl, fin hone⟩
          · have hfl' : x.fki = false := by simpa using hfl
            rw [if_neg (by
              unfold stops
              have h2 : ¬ x.j = x.i + k := by omega
              simp only [hi, h2, hfl', decide_false, Bool.or_false, Bool.and_false, Bool.false_eq_true, not_false_eq_true])]
            unfold goOn
            rw [if_pos (by dsimp only; omega)]
            refine bs_ok hs f ⟨by dsimp only; omega, by dsimp only; omega, fun _ => by dsimp only; omega, .inr ⟨a, ha, c2.symm, rfl⟩, fun _ => by dsimp only; omega, I.right⟩ ?_
            unfold fuelOf at hf ⊢
            rw [hfl'] at hf
            simp only [Bool.false_eq_true, if_false, if_true] at hf ⊢
            omega
      · have hfl : x.fki = false := by
          cases q : x.fki with
          | false => rfl
          | true => have := I.flag q; omega
        rw [if_neg (by
          unfold stops
          have h1 : ¬ x.j - (x.i + k) ≤ 1 := by omega
          simp only [h1, decide_false, Bool.false_and, Bool.false_eq_true, not_false_eq_true])]
        unfold goOn
        rw [if_neg (by dsimp only; omega)]
        refine bs_ok hs f ⟨by dsimp only; omega, by dsimp only; omega, (fun h => by dsimp only at h; omega), .inr ⟨a, ha, c2.symm, rfl⟩, (fun h => by dsimp only at h; rw [hfl] at h; cases h), I.right⟩ ?_
        unfold fuelOf at hf ⊢
        dsimp only
        rw [hfl] at hf ⊢
        simp only [Bool.false_eq_true, if_false] at hf ⊢
        clear hd
        omega
/-- the entries that are beginnings of an entry hang on its link -/
structure TabOk (t : List Am) : Prop where
  sorted : Sorted t
  pos : ∀ (i : Nat) (a : Am), t[i]? = some a → 1 ≤ a.s.length ∧ a.s.length ≤ 20
  sub : ∀ (i : Nat) (a : Am), t[i]? = some a → (a.sub < 0 ∧ ∀ (m : Nat) (x : Am), t[m]? = some x → keyA x <+: keyA a → a.s.length ≤ x.s.length) ∨
    (0 ≤ a.sub ∧ a.sub.toNat < i ∧ ∃ b, t[a.sub.toNat]? = some b ∧ keyA b <+: keyA a ∧ ∀ (m : Nat) (x : Am), t[m]? = some x → keyA x <+: keyA a → x.s.length < a.s.length → keyA x <+: keyA b)
noncomputable def chain (t : List Am) (ci : Nat) : Nat → Nat → Option (Option Am)
  | 0, _ => none
  | f + 1, i => match t[i]? with
    | none => none
    | some a => if a.s.length ≤ ci then some (some a) else if a.sub < 0 then some none else chain t ci f a.sub.toNat
noncomputable def Best (t : List Am) (r : List Nat) (o : Option Am) : Prop := match o with
  | some a => (∃ i : Nat, t[i]? = some a) ∧ keyA a <+: r ∧ ∀ (m : Nat) (x : Am), t[m]? = some x → keyA x <+: r → x.s.length ≤ a.s.length
  | none => ∀ (m : Nat) (x : Am), t[m]? = some x → ¬ keyA x <+: r
theorem key_len (a : Am) : (keyA a).length = a.s.length := by unfold keyA; simp
theorem chain_on (T : TabOk t) {k : List Nat} {ci : Nat} (hci : ci = lcp r k) (all : ∀ (m : Nat) (x : Am), t[m]? = some x → keyA x <+: r → keyA x <+: k) :
    ∀ (f i : Nat) {a : Am}, i < f → t[i]? = some a → keyA a <+: k → (∀ (m : Nat) (x : Am), t[m]? = some x → keyA x <+: r → keyA x <+: keyA a) → ∃ o, chain t ci f i = some o ∧ Best t r o
  | 0, i, _, h, _, _, _ => absurd h (Nat.not_lt_zero _)
  | f + 1, i, a, hf, ha, hk, inv => by
    unfold chain
    rw [ha]
    dsimp only
    by_cases hl : a.s.length ≤ ci
    · rw [if_pos hl]
      refine ⟨_, rfl, ⟨i, ha⟩, lcp_pre hk (by rw [key_len, ← hci]; exact hl), fun m x hx hp => ?_⟩
      have := (inv m x hx hp).length_le
      rw [key_len, key_len] at this
      exact this
    · rw [if_neg hl]
      -- an entry that begins r is shorter than this one
      have short : ∀ (m : Nat) (x : Am), t[m]? = some x → keyA x <+: r → x.s.length < a.s.length := fun m x hx hp => by
        have := pre_lcp hp (all m x hx hp)
        rw [key_len, ← hci] at this
        omega
      rcases T.sub i a ha with ⟨h1, h2⟩ | ⟨h1, h2, b, hb, h3, h4⟩
      · rw [if_pos h1]
        refine ⟨_, rfl, fun m x hx hp => ?_⟩
        have h5 := h2 m x hx (inv m x hx hp)
        have h6 := short m x hx hp
        omega
      · rw [if_neg (by omega)]
        exact chain_on T hci all f a.sub.toNat (by omega) hb (h3.trans hk) fun m x hx hp => h4 m x hx (inv m x hx hp) (short m x hx hp)
theorem chain_ok (T : TabOk t) {i ci : Nat} (h : Res t r i ci) (hn : 0 < t.length) (f : Nat) (hf : i < f) : ∃ o, chain t ci f i = some o ∧ Best t r o := by
  rcases h with ⟨a, ha, hlt, hci, later⟩ | ⟨rfl, rfl, all⟩
  · have pre : ∀ (m : Nat) (x : Am), t[m]? = some x → keyA x <+: r → keyA x <+: keyA a := by
      intro m x hx hp
      have hm : m ≤ i := by
        apply Nat.le_of_not_lt
        intro hm
        have := later m x hm hx
        rw [pre_ltL hp] at this; cases this
      rcases Nat.lt_or_eq_of_le hm with h1 | h1
      · exact pre_between hp (ltL_asymm (T.sorted _ _ _ _ h1 hx ha)) hlt
      · subst h1; rw [hx] at ha; cases ha; exact List.prefix_rfl
    exact chain_on T hci pre f i hf ha List.prefix_rfl pre
  · have none_ : ∀ (m : Nat) (x : Am), t[m]? = some x → ¬ keyA x <+: r := fun m x hx hp => by
      have := all m x hx
      rw [pre_ltL hp] at this; cases this
    have ha : t[0]? = some t[0] := List.getElem?_eq_getElem hn
    generalize t[0] = a at ha
    match f, hf with
    | f + 1, _ =>
      unfold chain
      rw [ha]
      dsimp only
      rw [if_neg (by have := (T.pos 0 a ha).1; omega)]
      rcases T.sub 0 a ha with ⟨h1, _⟩ | ⟨_, h2, _⟩
      · rw [if_pos h1]
        exact ⟨_, rfl, none_⟩
      · omega
end
end DaWalk
open PySem PySem.W PyProof.Rows DaHead
set_option Elab.async false
set_option linter.unusedVariables false
set_option linter.constructorNameAsVariable false
set_option linter.unusedSimpArgs false
namespace DaWalk
noncomputable def allI (t : List Am) (p : Nat → Am → Bool) : Bool := (List.range t.length).all fun i => match t[i]? with
  | some a => p i a
  | none => true
theorem allI_of {t : List Am} {p : Nat → Am → Bool} (h : allI t p = true) {i : Nat} {a : Am} (ha : t[i]? = some a) : p i a = true := by
  have := List.all_eq_true.mp h i (List.mem_range.mpr (List.getElem?_eq_some_iff.mp ha).1)
  rw [ha] at this
  exact this
noncomputable def sortedB (t : List Am) : Bool := allI t fun i a => allI t fun j b => !decide (i < j) || ltL (keyA a) (keyA b)
noncomputable def posB (t : List Am) : Bool := allI t fun i a => decide (1 ≤ a.s.length) && decide (a.s.length ≤ 20)
noncomputable def subB (t : List Am) : Bool := allI t fun i a =>
  if a.sub < 0 then allI t fun m x => !(keyA x).isPrefixOf (keyA a) || decide (a.s.length ≤ x.s.length)
  else decide (a.sub.toNat < i) && match t[a.sub.toNat]? with
    | some b => (keyA b).isPrefixOf (keyA a) && allI t fun m x => !((keyA x).isPrefixOf (keyA a) && decide (x.s.length < a.s.length)) || (keyA x).isPrefixOf (keyA b)
    | none => false
theorem tabOk_of {t : List Am} (h1 : sortedB t = true) (h2 : posB t = true) (h3 : subB t = true) : TabOk t where
  sorted := fun i j a b hij ha hb => by
    have := allI_of (allI_of h1 ha) hb
    simpa [hij] using this
  pos := fun i a ha => by
    have := allI_of h2 ha
    simpa using this
  sub := fun i a ha => by
    have h := allI_of h3 ha
    by_cases hs : a.sub < 0
    · rw [if_pos hs] at h
      refine Or.inl ⟨hs, fun m x hx hp => ?_⟩
      have := allI_of h hx
      rw [List.isPrefixOf_iff_prefix.mpr hp] at this
      simpa using this
    · rw [if_neg hs] at h
      obtain ⟨h4, h5⟩ := Bool.and_eq_true_iff.mp h
      split at h5
      · rename_i b hb
        obtain ⟨h6, h7⟩ := Bool.and_eq_true_iff.mp h5
        refine Or.inr ⟨by omega, of_decide_eq_true h4, b, hb, List.isPrefixOf_iff_prefix.mp h6, fun m x hx hp hl => ?_⟩
        have := allI_of h7 hx
        rw [List.isPrefixOf_iff_prefix.mpr hp, decide_eq_true hl] at this
        exact List.isPrefixOf_iff_prefix.mp (by simpa using this)
      · cases h5
theorem tab0 : TabOk t0 := tabOk_of (by decide +kernel) (by decide +kernel) (by decide +kernel)
theorem tab1 : TabOk t1 := tabOk_of (by decide +kernel) (by decide +kernel) (by decide +kernel)
theorem tab2 : TabOk t2 := tabOk_of (by decide +kernel) (by decide +kernel) (by decide +kernel)
end DaWalk
open PySem PySem.W PyProof.Rows DaHead
set_option Elab.async false
set_option linter.unusedVariables false
set_option linter.constructorNameAsVariable false
set_option linter.unusedSimpArgs false
set_option maxRecDepth 100000
namespace DaWalk
section
variable (t : List Am) (w : List Nat) (O : Orc) (c lb : Nat) (lm b kt p : Int)
noncomputable abbrev base9 (i j : Int) (ci cj : Int) (fk : Bool) : FL := [(.self, .self), (.v, .ams t), (.i, .int i), (.j, .int j), (.c, .int c), (.lb, .int lb), (.commonI, .int ci), (.commonJ, .int cj), (.fki, .bool fk)]
noncomputable abbrev full14 (i j : Int) (ci cj : Int) (fk : Bool) (k d cm : Int) (a : Am) (i2 : Int) : FL :=
  [(.self, .self), (.v, .ams t), (.i, .int i), (.j, .int j), (.c, .int c), (.lb, .int lb), (.commonI, .int ci), (.commonJ, .int cj), (.fki, .bool fk), (.k, .int k), (.diff, .int d), (.common, .int cm), (.w, .am a), (.i2, .int i2)]
/-- the text before the cursor, backwards, down to the bound -/
noncomputable def back (w : List Nat) (lb c : Nat) : List Nat := ((w.drop lb).take (c - lb)).reverse
theorem back_len (h1 : lb ≤ c) (h2 : c ≤ w.length) : (back w lb c).length = c - lb := by unfold back; simp; omega
theorem back_at (h1 : lb ≤ c) (h2 : c ≤ w.length) {m : Nat} (h : m < c - lb) : (back w lb c)[m]? = w[c - 1 - m]? := by
  unfold back
  rw [List.getElem?_reverse (by simp; omega), List.getElem?_take_of_lt (by simp; omega), List.getElem?_drop]
  congr 1
  simp; omega
theorem key_at {a : Am} {m : Nat} (h : m < a.s.length) : (keyA a)[m]? = a.s[a.s.length - 1 - m]? := by
  unfold keyA
  rw [List.getElem?_reverse h]
variable {i j ci cj : Int} {fk : Bool} {k d : Int} {a : Am} {i2 : Int}
theorem inner_end (h1 : lb ≤ c) {m : Nat} (hm : m = c - lb) : exs tb O bFindInner ⟨full14 t c lb i j ci cj fk k d m a i2, some (F7 w c lm lb b kt p)⟩ = some (.brk, ⟨full14 t c lb i j ci cj fk k (-1) m a i2, some (F7 w c lm lb b kt p)⟩) := by
  have e1 : (c : Int) - m = lb := by omega
  simp [bFindInner, blk, exs, xs1, xs2, xs3, xs4, xs5, xs6, xs7, xs8, xs9, xs10, xs11, xs12, xs13, xs14, xs15, xs16, xs17, xv1, xv2, xv3, xv4, xv5, xv6, xv7, xv8, xv9, xv10, xv11, xv12, xv13, xv14, xv15, xv16, xv17, xv18, xv19, xv20, xv21, xv22, xv23, xv24, xv25, xv26, xv27, xt1, xt2, xt3, xt4, xt5, xt6, xt8, xt12, xt13, xt14, xt15, xt23, xt27, xt28, xt29, xt30, xt31, xt32, xt33, getN, setL, putN, cmpM, subM, e1]
theorem inner_val (h1 : lb ≤ c) (h2 : c ≤ w.length) {m : Nat} (hm : m < c - lb) (hs : m < a.s.length) (hi : i2 = ((a.s.length - 1 - m : Nat) : Int)) {x y : Nat} (hx : (back w lb c)[m]? = some x) (hy : (keyA a)[m]? = some y) :
    exs tb O bFindInner ⟨full14 t c lb i j ci cj fk k d m a i2, some (F7 w c lm lb b kt p)⟩ = some (if x = y then (.next, ⟨full14 t c lb i j ci cj fk k 0 (m + 1 : Nat) a i2, some (F7 w c lm lb b kt p)⟩) else (.brk, ⟨full14 t c lb i j ci cj fk k ((x : Int) - y) m a i2, some (F7 w c lm lb b kt p)⟩)) := by
  rw [back_at w c lb h1 h2 hm] at hx
  rw [key_at hs] at hy
  have e1 : ¬ ((c : Int) - m = lb) := by omega
  have e2 : (m : Int) ≤ (c : Int) - 1 := by omega
  have e3 : ((c : Int) - 1 - m).toNat = c - 1 - m := by omega
  subst hi
  by_cases q : x = y
  · subst q
    simp [bFindInner, blk, exs, xs1, xs2, xs3, xs4, xs5, xs6, xs7, xs8, xs9, xs10, xs11, xs12, xs13, xs14, xs15, xs16, xs17, xv1, xv2, xv3, xv4, xv5, xv6, xv7, xv8, xv9, xv10, xv11, xv12, xv13, xv14, xv15, xv16, xv17, xv18, xv19, xv20, xv21, xv22, xv23, xv24, xv25, xv26, xv27, xt1, xt2, xt3, xt4, xt5, xt6, xt8, xt12, xt13, xt14, xt15, xt23, xt27, xt28, xt29, xt30, xt31, xt32, xt33, getN, getF, selfOk, setL, putN, cmpM, subM, addM, idxM, isLoc, ordM, amfM_s, amfM_i, amfM_r, F7, fCur, e1, e2, e3, hx, hy]
  · have e4 : ¬ ((x : Int) - y = 0) := by omega
    simp [bFindInner, blk, exs, xs1, xs2, xs3, xs4, xs5, xs6, xs7, xs8, xs9, xs10, xs11, xs12, xs13, xs14, xs15, xs16, xs17, xv1, xv2, xv3, xv4, xv5, xv6, xv7, xv8, xv9, xv10, xv11, xv12, xv13, xv14, xv15, xv16, xv17, xv18, xv19, xv20, xv21, xv22, xv23, xv24, xv25, xv26, xv27, xt1, xt2, xt3, xt4, xt5, xt6, xt8, xt12, xt13, xt14, xt15, xt23, xt27, xt28, xt29, xt30, xt31, xt32, xt33, getN, getF, selfOk, setL, putN, cmpM, subM, addM, idxM, isLoc, ordM, amfM_s, amfM_i, amfM_r, F7, fCur, e1, e2, e3, hx, hy, q, e4]
theorem inner_loop (h1 : lb ≤ c) (h2 : c ≤ w.length) : ∀ (m cm : Nat) (i2 : Int), cm + m = a.s.length → cm ≤ c - lb → ∃ i2', loopV .i2 (exs tb O bFindInner) (downV m) ⟨full14 t c lb i j ci cj fk k 0 cm a i2, some (F7 w c lm lb b kt p)⟩ =
      some (.next, ⟨full14 t c lb i j ci cj fk k (cg ((back w lb c).drop cm) ((keyA a).drop cm)).1 (cm + (cg ((back w lb c).drop cm) ((keyA a).drop cm)).2 : Nat) a i2', some (F7 w c lm lb b kt p)⟩)
  | 0, cm, i2, hm, hc => by
    have e : (keyA a).drop cm = [] := List.drop_eq_nil_of_le (by rw [key_len]; omega)
    rw [e]
    refine ⟨i2, ?_⟩
    have : cg ((back w lb c).drop cm) [] = (0, 0) := by cases (back w lb c).drop cm <;> rfl
    rw [this]
    rfl
  | m + 1, cm, i2, hm, hc => by
    have hs : cm < a.s.length := by omega
    have hk : (keyA a)[cm]? = some ((keyA a)[cm]'(by rw [key_len]; exact hs)) := List.getElem?_eq_getElem _
    have ek : (keyA a).drop cm = (keyA a)[cm]'(by rw [key_len]; exact hs) :: (keyA a).drop (cm + 1) := List.drop_eq_getElem_cons _
    have hset : setL .i2 (.int m) ⟨full14 t c lb i j ci cj fk k 0 cm a i2, some (F7 w c lm lb b kt p)⟩ = ⟨full14 t c lb i j ci cj fk k 0 cm a m, some (F7 w c lm lb b kt p)⟩ := rfl
    simp only [downV, loopV]
    rw [hset]
    by_cases he : cm = c - lb
    · have er : (back w lb c).drop cm = [] := List.drop_eq_nil_of_le (by rw [back_len w c lb h1 h2]; omega)
      rw [inner_end t w O c lb lm b kt p h1 he, er, ek]
      exact ⟨m, rfl⟩
    · have hlt : cm < c - lb := by omega
      have hb : (back w lb c)[cm]? = some ((back w lb c)[cm]'(by rw [back_len w c lb h1 h2]; exact hlt)) := List.getElem?_eq_getElem _
      have er : (back w lb c).drop cm = (back w lb c)[cm]'(by rw [back_len w c lb h1 h2]; exact hlt) :: (back w lb c).drop (cm + 1) := List.drop_eq_getElem_cons _
      rw [inner_val t w O c lb lm b kt p h1 h2 hlt hs (by omega) hb hk, er, ek]
      by_cases q : (back w lb c)[cm]'(by rw [back_len w c lb h1 h2]; exact hlt) = (keyA a)[cm]'(by rw [key_len]; exact hs)
      · rw [if_pos q]
        obtain ⟨i2', ih⟩ := inner_loop h1 h2 m (cm + 1) m (by omega) (by omega)
        refine ⟨i2', ?_⟩
        show loopV .i2 _ _ _ = _
        rw [ih]
        have : cg ((back w lb c)[cm]'(by rw [back_len w c lb h1 h2]; exact hlt) :: (back w lb c).drop (cm + 1)) ((keyA a)[cm]'(by rw [key_len]; exact hs) :: (keyA a).drop (cm + 1)) = ((cg ((back w lb c).drop (cm + 1)) ((keyA a).drop (cm + 1))).1, (cg ((back w lb c).drop (cm + 1)) ((keyA a).drop (cm + 1))).2 + 1) := by
          conv => lhs; unfold cg
          rw [if_pos q]
        rw [this]
        have e5 : cm + 1 + (cg ((back w lb c).drop (cm + 1)) ((keyA a).drop (cm + 1))).2 = cm + ((cg ((back w lb c).drop (cm + 1)) ((keyA a).drop (cm + 1))).2 + 1) := by omega
        rw [e5]
      · rw [if_neg q]
        refine ⟨m, ?_⟩
        have : cg ((back w lb c)[cm]'(by rw [back_len w c lb h1 h2]; exact hlt) :: (back w lb c).drop (cm + 1)) ((keyA a)[cm]'(by rw [key_len]; exact hs) :: (keyA a).drop (cm + 1)) = ((((back w lb c)[cm]'(by rw [back_len w c lb h1 h2]; exact hlt) : Nat) : Int) - ((keyA a)[cm]'(by rw [key_len]; exact hs) : Nat), 0) := by
          conv => lhs; unfold cg
          rw [if_neg q]
        rw [this]
        rfl
end
end DaWalk
open PySem PySem.W PyProof.Rows DaHead
set_option Elab.async false
set_option linter.unusedVariables false
set_option linter.constructorNameAsVariable false
set_option linter.unusedSimpArgs false
set_option maxRecDepth 100000
namespace DaWalk
noncomputable def bTail1 : M1 := .ifs (.cmp .Lt (.loc .diff) (.int 0)) (blk [.asgL .j (.loc .k), .asgL .commonJ (.loc .common)]) (blk [.asgL .i (.loc .k), .asgL .commonI (.loc .common)])
noncomputable def bTail2 : M1 := .ifs (.cmp .LtE (.sub (.loc .j) (.loc .i)) (.int 1)) (blk [.ifs (.cmp .Gt (.loc .i) (.int 0)) (blk [.brk]) .nil, .ifs (.cmp .Eq (.loc .j) (.loc .i)) (blk [.brk]) .nil, .ifs (.loc .fki) (blk [.brk]) .nil, .asgL .fki (.bool true)]) .nil
theorem bFindLoop_eq : bFindLoop = blk [.asgL .k (.add (.loc .i) (.shr1 (.sub (.loc .j) (.loc .i)))), .asgL .diff (.int 0), .asgL .common (.min (.loc .commonI) (.loc .commonJ)), .asgL .w (.idx (.loc .v) (.loc .k)),
  .forDown .i2 (.sub (.sub (.len (.amf .w .s)) (.int 1)) (.loc .common)) bFindInner, bTail1, bTail2] := rfl
section
variable (t : List Am) (w : List Nat) (O : Orc) (c lb : Nat) (lm b kt p : Int) {x : BS} {k cm : Nat} {d : Int} {a : Am} {i2 : Int}
noncomputable abbrev F14 (x : BS) (k d cm : Int) (a : Am) (i2 : Int) : FL := full14 t c lb x.i x.j x.ci x.cj x.fki k d cm a i2
theorem tail1 : ex1 tb O bTail1 ⟨F14 t c lb x k d cm a i2, some (F7 w c lm lb b kt p)⟩ = some (.next, ⟨F14 t c lb (if d < 0 then { x with j := k, cj := cm } else { x with i := k, ci := cm }) k d cm a i2, some (F7 w c lm lb b kt p)⟩) := by
  by_cases h : d < 0 <;> simp [bTail1, blk, exs, xs1, xs2, xs3, xs4, xs5, xs6, xs7, xs8, xs9, xs10, xs11, xs12, xs13, xs14, xs15, xs16, xs17, xv1, xv2, xv3, xv4, xv5, xv6, xv7, xv8, xv9, xv10, xv11, xv12, xv13, xv14, xv15, xv16, xv17, xv18, xv19, xv20, xv21, xv22, xv23, xv24, xv25, xv26, xv27, xt1, xt2, xt3, xt4, xt5, xt6, xt8, xt12, xt13, xt14, xt15, xt23, xt27, xt28, xt29, xt30, xt31, xt32, xt33, getN, setL, putN, cmpM, h]
theorem tail2 (h : x.i ≤ x.j) : ex1 tb O bTail2 ⟨F14 t c lb x k d cm a i2, some (F7 w c lm lb b kt p)⟩ = some (if stops x then (.brk, ⟨F14 t c lb x k d cm a i2, some (F7 w c lm lb b kt p)⟩) else (.next, ⟨F14 t c lb (goOn x) k d cm a i2, some (F7 w c lm lb b kt p)⟩)) := by
  unfold stops goOn
  by_cases h1 : x.j - x.i ≤ 1
  · have e1 : (x.j : Int) - x.i ≤ 1 := by omega
    by_cases h2 : 0 < x.i
    · simp [bTail2, blk, exs, xs1, xs2, xs3, xs4, xs5, xs6, xs7, xs8, xs9, xs10, xs11, xs12, xs13, xs14, xs15, xs16, xs17, xv1, xv2, xv3, xv4, xv5, xv6, xv7, xv8, xv9, xv10, xv11, xv12, xv13, xv14, xv15, xv16, xv17, xv18, xv19, xv20, xv21, xv22, xv23, xv24, xv25, xv26, xv27, xt1, xt2, xt3, xt4, xt5, xt6, xt8, xt12, xt13, xt14, xt15, xt23, xt27, xt28, xt29, xt30, xt31, xt32, xt33, getN, setL, putN, cmpM, subM, asBool, h1, e1, h2]
    · have e2 : x.i = 0 := by omega
      by_cases h3 : x.j = x.i
      · simp [bTail2, blk, exs, xs1, xs2, xs3, xs4, xs5, xs6, xs7, xs8, xs9, xs10, xs11, xs12, xs13, xs14, xs15, xs16, xs17, xv1, xv2, xv3, xv4, xv5, xv6, xv7, xv8, xv9, xv10, xv11, xv12, xv13, xv14, xv15, xv16, xv17, xv18, xv19, xv20, xv21, xv22, xv23, xv24, xv25, xv26, xv27, xt1, xt2, xt3, xt4, xt5, xt6, xt8, xt12, xt13, xt14, xt15, xt23, xt27, xt28, xt29, xt30, xt31, xt32, xt33, getN, setL, putN, cmpM, subM, asBool, h1, e1, h2, e2, h3]
      · have e3 : ¬ ((x.j : Int) = x.i) := by omega
        have e4 : ¬ x.j = 0 := by omega
        have e5 : x.j ≤ 1 := by omega
        have e6 : (x.j : Int) ≤ 1 := by omega
        have e7 : ¬ ((x.j : Int) = 0) := by omega
        cases h4 : x.fki <;> simp [bTail2, blk, exs, xs1, xs2, xs3, xs4, xs5, xs6, xs7, xs8, xs9, xs10, xs11, xs12, xs13, xs14, xs15, xs16, xs17, xv1, xv2, xv3, xv4, xv5, xv6, xv7, xv8, xv9, xv10, xv11, xv12, xv13, xv14, xv15, xv16, xv17, xv18, xv19, xv20, xv21, xv22, xv23, xv24, xv25, xv26, xv27, xt1, xt2, xt3, xt4, xt5, xt6, xt8, xt12, xt13, xt14, xt15, xt23, xt27, xt28, xt29, xt30, xt31, xt32, xt33, getN, setL, putN, cmpM, subM, asBool, h1, e1, h2, e2, h3, e3, h4, e4, e5, e6, e7]
  · have e1 : ¬ ((x.j : Int) - x.i ≤ 1) := by omega
    simp [bTail2, blk, exs, xs1, xs2, xs3, xs4, xs5, xs6, xs7, xs8, xs9, xs10, xs11, xs12, xs13, xs14, xs15, xs16, xs17, xv1, xv2, xv3, xv4, xv5, xv6, xv7, xv8, xv9, xv10, xv11, xv12, xv13, xv14, xv15, xv16, xv17, xv18, xv19, xv20, xv21, xv22, xv23, xv24, xv25, xv26, xv27, xt1, xt2, xt3, xt4, xt5, xt6, xt8, xt12, xt13, xt14, xt15, xt23, xt27, xt28, xt29, xt30, xt31, xt32, xt33, getN, setL, putN, cmpM, subM, asBool, h1, e1]
/-- behind the four stores -/
theorem rest_turn (h1 : lb ≤ c) (h2 : c ≤ w.length) {loc : FL} (hx : x.i < x.j) (hk : k = x.i + (x.j - x.i) / 2) (hM : a.s.length ≤ 20) (hm : min x.ci x.cj ≤ a.s.length) (hc : min x.ci x.cj ≤ c - lb)
    (hloc : loc = F14 t c lb x k 0 (min x.ci x.cj : Nat) a i2 ∨ (min x.ci x.cj < a.s.length ∧ putN .i2 (.int i2) loc = F14 t c lb x k 0 (min x.ci x.cj : Nat) a i2 ∧ (∀ u, putN .i2 u loc = putN .i2 u (F14 t c lb x k 0 (min x.ci x.cj : Nat) a i2)) ∧ getN .w loc = some (.am a) ∧ getN .common loc = some (.int (min x.ci x.cj : Nat)))) :
    ∃ k' d' cm' a' i2', exs tb O (blk [.forDown .i2 (.sub (.sub (.len (.amf .w .s)) (.int 1)) (.loc .common)) bFindInner, bTail1, bTail2]) ⟨loc, some (F7 w c lm lb b kt p)⟩ =
      some (if stops (moved (back w lb c) x a) then (.brk, ⟨F14 t c lb (moved (back w lb c) x a) k' d' cm' a' i2', some (F7 w c lm lb b kt p)⟩) else (.next, ⟨F14 t c lb (goOn (moved (back w lb c) x a)) k' d' cm' a' i2', some (F7 w c lm lb b kt p)⟩)) := by
  obtain ⟨i2', hl⟩ := inner_loop t w O c lb lm b kt p (i := x.i) (j := x.j) (ci := x.ci) (cj := x.cj) (fk := x.fki) (k := k) (a := a) h1 h2 (a.s.length - min x.ci x.cj) (min x.ci x.cj) i2 (by omega) hc
  have e0 : ((a.s.length : Int) - 1 - (min x.ci x.cj : Nat) + 1).toNat = a.s.length - min x.ci x.cj := by omega
  have e1 : (a.s.length : Int) - 1 - (min x.ci x.cj : Nat) < 1000 ∧ -1000 < (a.s.length : Int) - 1 - (min x.ci x.cj : Nat) := by omega
  have hw : getN .w loc = some (.am a) := by
    rcases hloc with rfl | h
    · rfl
    · exact h.2.2.2.1
  have hcm : getN .common loc = some (.int (min x.ci x.cj : Nat)) := by
    rcases hloc with rfl | h
    · rfl
    · exact h.2.2.2.2
  have hfor : ex1 tb O (.forDown .i2 (.sub (.sub (.len (.amf .w .s)) (.int 1)) (.loc .common)) bFindInner) ⟨loc, some (F7 w c lm lb b kt p)⟩ =
      some (.next, ⟨F14 t c lb x k (cmA (back w lb c) x a).1 (min x.ci x.cj + (cmA (back w lb c) x a).2 : Nat) a i2', some (F7 w c lm lb b kt p)⟩) := by
    have hsame : loopV .i2 (exs tb O bFindInner) (downV (a.s.length - min x.ci x.cj)) ⟨loc, some (F7 w c lm lb b kt p)⟩ = loopV .i2 (exs tb O bFindInner) (downV (a.s.length - min x.ci x.cj)) ⟨F14 t c lb x k 0 (min x.ci x.cj : Nat) a i2, some (F7 w c lm lb b kt p)⟩ := by
      rcases hloc with rfl | h
      · rfl
      · have : ∃ q, a.s.length - min x.ci x.cj = q + 1 := ⟨a.s.length - min x.ci x.cj - 1, by omega⟩
        obtain ⟨q, hq⟩ := this
        rw [hq]
        simp only [downV, loopV, setL]
        rw [h.2.2.1]
    simp only [xs1, xs2, xs3, xs4, xs5, xs6, xs7, xs8, xs9, xs10, xs11, xs12, xs13, xs14, xs15, xs16, xs17, xv1, xv2, xv3, xv4, xv5, xv6, xv7, xv8, xv9, xv10, xv11, xv12, xv13, xv14, xv15, xv16, xv17, xv18, xv19, xv20, xv21, xv22, xv23, xv24, xv25, xv26, xv27, hw, hcm, Option.bind_some, amfM_s, amfM_i, amfM_r, Option.map_some, lenM, subM, asI, asS, asA, asB, as1, addI, cmpI, cmpS, cmpT, cmpN, evP, asBool, if_true, Option.bind_some, Option.map_some]
    rw [if_pos e1, e0, hsame, hl]
    rfl
  refine ⟨k, (cmA (back w lb c) x a).1, (min x.ci x.cj + (cmA (back w lb c) x a).2 : Nat), a, i2', ?_⟩
  refine (exs_next (r := blk [bTail1, bTail2]) hfor).trans ?_
  refine (exs_next (r := blk [bTail2]) (tail1 t w O c lb lm b kt p)).trans ?_
  have hmv : (if (cmA (back w lb c) x a).1 < 0 then { x with j := k, cj := min x.ci x.cj + (cmA (back w lb c) x a).2 } else { x with i := k, ci := min x.ci x.cj + (cmA (back w lb c) x a).2 }) = moved (back w lb c) x a := by
    unfold moved; rw [hk]
  rw [hmv]
  have hle : (moved (back w lb c) x a).i ≤ (moved (back w lb c) x a).j := by
    unfold moved
    split <;> dsimp only <;> omega
  have h3 := tail2 t w O c lb lm b kt p (x := moved (back w lb c) x a) (k := k) (cm := min x.ci x.cj + (cmA (back w lb c) x a).2) (d := (cmA (back w lb c) x a).1) (a := a) (i2 := i2') hle
  by_cases hst : stops (moved (back w lb c) x a) = true
  · rw [if_pos hst] at h3 ⊢
    exact exs_out h3 (by simp)
  · rw [if_neg hst] at h3 ⊢
    exact (exs_next (r := .nil) h3).trans rfl
theorem four {loc : FL} {fl : Fl} (hi : getN .i loc = some (.int x.i)) (hj : getN .j loc = some (.int x.j)) (hci : getN .commonI loc = some (.int x.ci)) (hcj : getN .commonJ loc = some (.int x.cj)) (hv : getN .v loc = some (.ams t))
    (e1 : (0 : Int) ≤ (x.j : Int) - x.i) (e2 : (x.i : Int) + ((x.j : Int) - x.i) / 2 = ((x.i + (x.j - x.i) / 2 : Nat) : Int)) (e3 : (if (x.cj : Int) < x.ci then (x.cj : Int) else x.ci) = ((min x.ci x.cj : Nat) : Int)) (ha : t[x.i + (x.j - x.i) / 2]? = some a) :
    exs tb O bFindLoop ⟨loc, fl⟩ = exs tb O (blk [.forDown .i2 (.sub (.sub (.len (.amf .w .s)) (.int 1)) (.loc .common)) bFindInner, bTail1, bTail2])
      ⟨putN .w (.am a) (putN .common (.int (min x.ci x.cj : Nat)) (putN .diff (.int 0) (putN .k (.int (x.i + (x.j - x.i) / 2 : Nat)) loc))), fl⟩ := by
  rw [bFindLoop_eq]
  refine (exs_next (r := blk _) (τ := ⟨putN .k (.int (x.i + (x.j - x.i) / 2 : Nat)) loc, fl⟩) ?_).trans ?_
  · simp only [xs1, xs2, xs3, xs4, xs5, xs6, xs7, xs8, xs9, xs10, xs11, xs12, xs13, xs14, xs15, xs16, xs17, xv1, xv2, xv3, xv4, xv5, xv6, xv7, xv8, xv9, xv10, xv11, xv12, xv13, xv14, xv15, xv16, xv17, xv18, xv19, xv20, xv21, xv22, xv23, xv24, xv25, xv26, xv27, hi, hj, Option.map_some, Option.bind_some, subM, shrM, if_pos e1, addM, e2, setL, asI, asS, asA, asB, as1, addI, cmpI, cmpS, cmpT, cmpN, evP, asBool, if_true, Option.bind_some, Option.map_some]
  refine (exs_next (r := blk _) (τ := ⟨putN .diff (.int 0) (putN .k (.int (x.i + (x.j - x.i) / 2 : Nat)) loc), fl⟩) rfl).trans ?_
  refine (exs_next (r := blk _) (τ := ⟨putN .common (.int (min x.ci x.cj : Nat)) (putN .diff (.int 0) (putN .k (.int (x.i + (x.j - x.i) / 2 : Nat)) loc)), fl⟩) ?_).trans ?_
  · have h1 : getN .commonI (putN .diff (.int 0) (putN .k (.int (x.i + (x.j - x.i) / 2 : Nat)) loc)) = some (.int x.ci) := by rw [getN_putN, if_neg (by decide), getN_putN, if_neg (by decide), hci]
    have h2 : getN .commonJ (putN .diff (.int 0) (putN .k (.int (x.i + (x.j - x.i) / 2 : Nat)) loc)) = some (.int x.cj) := by rw [getN_putN, if_neg (by decide), getN_putN, if_neg (by decide), hcj]
    simp only [xs1, xs2, xs3, xs4, xs5, xs6, xs7, xs8, xs9, xs10, xs11, xs12, xs13, xs14, xs15, xs16, xs17, xv1, xv2, xv3, xv4, xv5, xv6, xv7, xv8, xv9, xv10, xv11, xv12, xv13, xv14, xv15, xv16, xv17, xv18, xv19, xv20, xv21, xv22, xv23, xv24, xv25, xv26, xv27, h1, h2, Option.map_some, Option.bind_some, minM, e3, setL, asI, asS, asA, asB, as1, addI, cmpI, cmpS, cmpT, cmpN, evP, asBool, if_true, Option.bind_some, Option.map_some]
  refine (exs_next (r := blk _) (τ := ⟨putN .w (.am a) (putN .common (.int (min x.ci x.cj : Nat)) (putN .diff (.int 0) (putN .k (.int (x.i + (x.j - x.i) / 2 : Nat)) loc))), fl⟩) ?_).trans rfl
  have h1 : getN .v (putN .common (.int (min x.ci x.cj : Nat)) (putN .diff (.int 0) (putN .k (.int (x.i + (x.j - x.i) / 2 : Nat)) loc))) = some (.ams t) := by rw [getN_putN, if_neg (by decide), getN_putN, if_neg (by decide), getN_putN, if_neg (by decide), hv]
  have h2 : getN .k (putN .common (.int (min x.ci x.cj : Nat)) (putN .diff (.int 0) (putN .k (.int (x.i + (x.j - x.i) / 2 : Nat)) loc))) = some (.int (x.i + (x.j - x.i) / 2 : Nat)) := by rw [getN_putN, if_neg (by decide), getN_putN, if_neg (by decide), getN_putN, if_pos rfl]
  have e4 : (0 : Int) ≤ ((x.i + (x.j - x.i) / 2 : Nat) : Int) := by omega
  simp only [xs1, xs2, xs3, xs4, xs5, xs6, xs7, xs8, xs9, xs10, xs11, xs12, xs13, xs14, xs15, xs16, xs17, xv1, xv2, xv3, xv4, xv5, xv6, xv7, xv8, xv9, xv10, xv11, xv12, xv13, xv14, xv15, xv16, xv17, xv18, xv19, xv20, xv21, xv22, xv23, xv24, xv25, xv26, xv27, h1, h2, Option.map_some, Option.bind_some, idxM, isLoc, if_pos e4, Int.toNat_natCast, ha, setL, asI, asS, asA, asB, as1, addI, cmpI, cmpS, cmpT, cmpN, evP, asBool, if_true, Option.bind_some, Option.map_some]
/-- the state at the head of a turn -/
noncomputable def Head (x : BS) (loc : FL) : Prop := (loc = base9 t c lb x.i x.j x.ci x.cj x.fki ∧ x.ci = 0) ∨ ∃ k d cm a i2, loc = F14 t c lb x k d cm a i2
theorem turn (h1 : lb ≤ c) (h2 : c ≤ w.length) {loc : FL} (hH : Head t c lb x loc) (hx : x.i < x.j) (ha : t[x.i + (x.j - x.i) / 2]? = some a) (hM : 1 ≤ a.s.length ∧ a.s.length ≤ 20) (hm : min x.ci x.cj ≤ a.s.length) (hc : min x.ci x.cj ≤ c - lb) :
    ∃ loc', Head t c lb (if stops (moved (back w lb c) x a) then moved (back w lb c) x a else goOn (moved (back w lb c) x a)) loc' ∧ (∃ k d cm a' i2, loc' = F14 t c lb (if stops (moved (back w lb c) x a) then moved (back w lb c) x a else goOn (moved (back w lb c) x a)) k d cm a' i2) ∧
      exs tb O bFindLoop ⟨loc, some (F7 w c lm lb b kt p)⟩ = some (if stops (moved (back w lb c) x a) then .brk else .next, ⟨loc', some (F7 w c lm lb b kt p)⟩) := by
  have e1 : (0 : Int) ≤ (x.j : Int) - x.i := by omega
  have e2 : (x.i : Int) + ((x.j : Int) - x.i) / 2 = ((x.i + (x.j - x.i) / 2 : Nat) : Int) := by omega
  have e3 : (if (x.cj : Int) < x.ci then (x.cj : Int) else x.ci) = ((min x.ci x.cj : Nat) : Int) := by split <;> omega
  have fin : ∀ {loc₁ : FL} {i2 : Int}, (loc₁ = F14 t c lb x (x.i + (x.j - x.i) / 2 : Nat) 0 (min x.ci x.cj : Nat) a i2 ∨ (min x.ci x.cj < a.s.length ∧ putN .i2 (.int i2) loc₁ = F14 t c lb x (x.i + (x.j - x.i) / 2 : Nat) 0 (min x.ci x.cj : Nat) a i2 ∧ (∀ u, putN .i2 u loc₁ = putN .i2 u (F14 t c lb x (x.i + (x.j - x.i) / 2 : Nat) 0 (min x.ci x.cj : Nat) a i2)) ∧ getN .w loc₁ = some (.am a) ∧ getN .common loc₁ = some (.int (min x.ci x.cj : Nat)))) →
      exs tb O bFindLoop ⟨loc, some (F7 w c lm lb b kt p)⟩ = exs tb O (blk [.forDown .i2 (.sub (.sub (.len (.amf .w .s)) (.int 1)) (.loc .common)) bFindInner, bTail1, bTail2]) ⟨loc₁, some (F7 w c lm lb b kt p)⟩ →
      ∃ loc', Head t c lb (if stops (moved (back w lb c) x a) then moved (back w lb c) x a else goOn (moved (back w lb c) x a)) loc' ∧ (∃ k d cm a' i2, loc' = F14 t c lb (if stops (moved (back w lb c) x a) then moved (back w lb c) x a else goOn (moved (back w lb c) x a)) k d cm a' i2) ∧
      exs tb O bFindLoop ⟨loc, some (F7 w c lm lb b kt p)⟩ = some (if stops (moved (back w lb c) x a) then .brk else .next, ⟨loc', some (F7 w c lm lb b kt p)⟩) := by
    intro loc₁ i2 hl he
    obtain ⟨k', d', cm', a', i2', hr⟩ := rest_turn t w O c lb lm b kt p h1 h2 (x := x) hx rfl hM.2 hm hc hl
    rw [he, hr]
    by_cases hst : stops (moved (back w lb c) x a) = true
    · simp only [if_pos hst]
      exact ⟨_, .inr ⟨k', d', cm', a', i2', rfl⟩, ⟨k', d', cm', a', i2', rfl⟩, rfl⟩
    · simp only [if_neg hst]
      exact ⟨_, .inr ⟨k', d', cm', a', i2', rfl⟩, ⟨k', d', cm', a', i2', rfl⟩, rfl⟩
  rcases hH with ⟨rfl, h0⟩ | ⟨k, d, cm, a0, i2, rfl⟩
  · refine fin (loc₁ := base9 t c lb x.i x.j x.ci x.cj x.fki ++ [(.k, .int (x.i + (x.j - x.i) / 2 : Nat)), (.diff, .int 0), (.common, .int (min x.ci x.cj : Nat)), (.w, .am a)]) (i2 := 0) (.inr ⟨by rw [h0, Nat.zero_min]; omega, rfl, fun u => rfl, rfl, rfl⟩) ?_
    exact four t O rfl rfl rfl rfl rfl e1 e2 e3 ha
  · refine fin (loc₁ := F14 t c lb x (x.i + (x.j - x.i) / 2 : Nat) 0 (min x.ci x.cj : Nat) a i2) (i2 := i2) (.inl rfl) ?_
    exact four t O rfl rfl rfl rfl rfl e1 e2 e3 ha
end
end DaWalk
open PySem PySem.W PyProof.Rows DaHead
set_option Elab.async false
set_option linter.unusedVariables false
set_option linter.constructorNameAsVariable false
set_option linter.unusedSimpArgs false
set_option maxRecDepth 100000
namespace DaWalk
section
variable {t : List Am} {r : List Nat}
theorem inv_on (hs : Sorted t) {x : BS} (I : Inv t r x) {a : Am} (ha : t[x.i + (x.j - x.i) / 2]? = some a) (hst : stops (moved r x a) = false) : Inv t r (goOn (moved r x a)) := by
  have hlt := I.lt
  have hle := I.le
  obtain ⟨c1, c2⟩ := cmA_is hs I ha
  by_cases hd : (cmA r x a).1 < 0
  · rw [decide_eq_true hd] at c2
    have e : moved r x a = { x with j := x.i + (x.j - x.i) / 2, cj := lcp r (keyA a) } := by unfold moved; rw [if_pos hd, c1]
    rw [e] at hst ⊢
    by_cases hk0 : (x.j - x.i) / 2 = 0
    · exfalso
      have : stops { x with j := x.i + (x.j - x.i) / 2, cj := lcp r (keyA a) } = true := by unfold stops; simp [hk0]
      rw [this] at hst; cases hst
    · have hfl : x.fki = false := by
        cases q : x.fki with
        | false => rfl
        | true => have := I.flag q; omega
      unfold goOn
      by_cases hone : x.i + (x.j - x.i) / 2 - x.i ≤ 1
      · rw [if_pos (by dsimp only; exact hone)]
        have hi0 : x.i = 0 := by
          apply Nat.eq_zero_of_not_pos
          intro hi
          have : stops { x with j := x.i + (x.j - x.i) / 2, cj := lcp r (keyA a) } = true := by
            unfold stops
            simp only [hone, hi, decide_true, Bool.true_or, Bool.and_self]
          rw [this] at hst; cases hst
        exact ⟨by dsimp only; omega, by dsimp only; omega, fun _ => hi0, I.left, fun _ => ⟨hi0, by dsimp only; omega⟩, .inr ⟨a, ha, c2.symm, rfl⟩⟩
      · rw [if_neg (by dsimp only; exact hone)]
        exact ⟨by dsimp only; omega, by dsimp only; omega, (fun h => by dsimp only at h; omega), I.left, (fun h => by dsimp only at h; rw [hfl] at h; cases h), .inr ⟨a, ha, c2.symm, rfl⟩⟩
  · rw [decide_eq_false hd] at c2
    have e : moved r x a = { x with i := x.i + (x.j - x.i) / 2, ci := lcp r (keyA a) } := by unfold moved; rw [if_neg hd, c1]
    rw [e] at hst ⊢
    unfold goOn
    by_cases hone : x.j - (x.i + (x.j - x.i) / 2) ≤ 1
    · rw [if_pos (by dsimp only; exact hone)]
      have hi0 : x.i + (x.j - x.i) / 2 = 0 := by
        apply Nat.eq_zero_of_not_pos
        intro hi
        have : stops { x with i := x.i + (x.j - x.i) / 2, ci := lcp r (keyA a) } = true := by
          unfold stops
          simp only [hone, hi, decide_true, Bool.true_or, Bool.and_self]
        rw [this] at hst; cases hst
      exact ⟨by dsimp only; omega, by dsimp only; omega, fun _ => by dsimp only; omega, .inr ⟨a, ha, c2.symm, rfl⟩, fun _ => by dsimp only; omega, I.right⟩
    · rw [if_neg (by dsimp only; exact hone)]
      have hfl : x.fki = false := by
        cases q : x.fki with
        | false => rfl
        | true => have := I.flag q; omega
      exact ⟨by dsimp only; omega, by dsimp only; omega, (fun h => by dsimp only at h; omega), .inr ⟨a, ha, c2.symm, rfl⟩, (fun h => by dsimp only at h; rw [hfl] at h; cases h), I.right⟩
end
section
variable (t : List Am) (w : List Nat) (O : Orc) (c lb : Nat) (lm b kt p : Int)
theorem bs_loop (T : TabOk t) (h1 : lb ≤ c) (h2 : c ≤ w.length) : ∀ (f : Nat) {x y : BS} {loc : FL}, Head t c lb x loc → Inv t (back w lb c) x → bsRun t (back w lb c) f x = some y →
    ∃ k d cm a i2, loopW (evT tb O (.bool true)) (exs tb O bFindLoop) f ⟨loc, some (F7 w c lm lb b kt p)⟩ = some (.next, ⟨F14 t c lb y k d cm a i2, some (F7 w c lm lb b kt p)⟩)
  | 0, x, y, loc, hH, I, h => by cases h
  | f + 1, x, y, loc, hH, I, h => by
    unfold bsRun at h
    split at h
    · cases h
    · rename_i a ha
      have hag := agree T.sorted I ha
      have hl1 := lcp_le_right (back w lb c) (keyA a)
      have hl2 := lcp_le_left (back w lb c) (keyA a)
      rw [key_len] at hl1
      rw [back_len w c lb h1 h2] at hl2
      obtain ⟨loc', hH', ⟨k, d, cm, a', i2, hf⟩, ht⟩ := turn t w O c lb lm b kt p h1 h2 hH I.lt ha (T.pos _ _ ha) (by omega) (by omega)
      by_cases hst : stops (moved (back w lb c) x a) = true
      · rw [if_pos hst] at h
        cases h
        simp only [if_pos hst] at ht hf
        rw [hf] at ht
        exact ⟨k, d, cm, a', i2, loopW_brk (t_true O _) ht⟩
      · rw [if_neg hst] at h
        simp only [if_neg hst] at ht hH'
        rw [loopW_turn (t_true O _) ht]
        exact bs_loop T h1 h2 f hH' (inv_on T.sorted I ha (by simpa using hst)) h
theorem back_turn {x : BS} {k d cm : Int} {a0 a : Am} {i2 : Int} (ha : t[x.i]? = some a) : exs tb O bFindBack ⟨F14 t c lb x k d cm a0 i2, some (F7 w c lm lb b kt p)⟩ =
    some (if a.s.length ≤ x.ci then (.ret (.int a.res), ⟨F14 t c lb x k d cm a i2, some (F7 w ((c : Int) - a.s.length) lm lb b kt p)⟩)
      else if a.sub < 0 then (.ret (.int 0), ⟨full14 t c lb a.sub x.j x.ci x.cj x.fki k d cm a i2, some (F7 w c lm lb b kt p)⟩) else (.next, ⟨full14 t c lb a.sub x.j x.ci x.cj x.fki k d cm a i2, some (F7 w c lm lb b kt p)⟩)) := by
  by_cases h1 : a.s.length ≤ x.ci
  · have e1 : (a.s.length : Int) ≤ x.ci := by omega
    simp [bFindBack, blk, exs, xs1, xs2, xs3, xs4, xs5, xs6, xs7, xs8, xs9, xs10, xs11, xs12, xs13, xs14, xs15, xs16, xs17, xv1, xv2, xv3, xv4, xv5, xv6, xv7, xv8, xv9, xv10, xv11, xv12, xv13, xv14, xv15, xv16, xv17, xv18, xv19, xv20, xv21, xv22, xv23, xv24, xv25, xv26, xv27, xt1, xt2, xt3, xt4, xt5, xt6, xt8, xt12, xt13, xt14, xt15, xt23, xt27, xt28, xt29, xt30, xt31, xt32, xt33, getN, getF, selfOk, setL, setF, putN, cmpM, subM, idxM, isLoc, lenM, amfM_s, amfM_i, amfM_r, F7, ha, h1, e1]
  · have e1 : ¬ (a.s.length : Int) ≤ x.ci := by omega
    by_cases h2 : a.sub < 0
    · simp [bFindBack, blk, exs, xs1, xs2, xs3, xs4, xs5, xs6, xs7, xs8, xs9, xs10, xs11, xs12, xs13, xs14, xs15, xs16, xs17, xv1, xv2, xv3, xv4, xv5, xv6, xv7, xv8, xv9, xv10, xv11, xv12, xv13, xv14, xv15, xv16, xv17, xv18, xv19, xv20, xv21, xv22, xv23, xv24, xv25, xv26, xv27, xt1, xt2, xt3, xt4, xt5, xt6, xt8, xt12, xt13, xt14, xt15, xt23, xt27, xt28, xt29, xt30, xt31, xt32, xt33, getN, getF, selfOk, setL, setF, putN, cmpM, subM, idxM, isLoc, lenM, amfM_s, amfM_i, amfM_r, F7, ha, h1, e1, h2]
    · simp [bFindBack, blk, exs, xs1, xs2, xs3, xs4, xs5, xs6, xs7, xs8, xs9, xs10, xs11, xs12, xs13, xs14, xs15, xs16, xs17, xv1, xv2, xv3, xv4, xv5, xv6, xv7, xv8, xv9, xv10, xv11, xv12, xv13, xv14, xv15, xv16, xv17, xv18, xv19, xv20, xv21, xv22, xv23, xv24, xv25, xv26, xv27, xt1, xt2, xt3, xt4, xt5, xt6, xt8, xt12, xt13, xt14, xt15, xt23, xt27, xt28, xt29, xt30, xt31, xt32, xt33, getN, getF, selfOk, setL, setF, putN, cmpM, subM, idxM, isLoc, lenM, amfM_s, amfM_i, amfM_r, F7, ha, h1, e1, h2]
theorem chain_loop : ∀ (f : Nat) {x : BS} {k d cm : Int} {a0 : Am} {i2 : Int} {o : Option Am}, chain t x.ci f x.i = some o →
    ∃ loc', loopW (evT tb O (.bool true)) (exs tb O bFindBack) f ⟨F14 t c lb x k d cm a0 i2, some (F7 w c lm lb b kt p)⟩ = some (match o with
      | some a => (.ret (.int a.res), ⟨loc', some (F7 w ((c : Int) - a.s.length) lm lb b kt p)⟩)
      | none => (.ret (.int 0), ⟨loc', some (F7 w c lm lb b kt p)⟩))
  | 0, x, k, d, cm, a0, i2, o, h => by cases h
  | f + 1, x, k, d, cm, a0, i2, o, h => by
    unfold chain at h
    split at h
    · cases h
    · rename_i a ha
      have ht := back_turn t w O c lb lm b kt p (k := k) (d := d) (cm := cm) (a0 := a0) (i2 := i2) ha
      by_cases h1 : a.s.length ≤ x.ci
      · rw [if_pos h1] at h ht
        cases h
        exact ⟨_, loopW_ret (t_true O _) ht⟩
      · rw [if_neg h1] at h ht
        by_cases h2 : a.sub < 0
        · rw [if_pos h2] at h ht
          cases h
          exact ⟨_, loopW_ret (t_true O _) ht⟩
        · rw [if_neg h2] at h ht
          rw [loopW_turn (t_true O _) ht]
          have e : a.sub = ((a.sub.toNat : Nat) : Int) := by omega
          have := chain_loop f (x := { x with i := a.sub.toNat }) (k := k) (d := d) (cm := cm) (a0 := a) (i2 := i2) h
          rw [show full14 t c lb a.sub x.j x.ci x.cj x.fki k d cm a i2 = F14 t c lb { x with i := a.sub.toNat } k d cm a i2 from by rw [e]; rfl]
          exact this
/-- what find_among_b gives back -/
theorem find_is (K : Nat) (T : TabOk t) (hn : 0 < t.length) (hz : t.length ≤ 90) (h1 : lb ≤ c) (h2 : c ≤ w.length) :
    ∃ o, Best t (back w lb c) o ∧ orc tb (K + 1) .findAmongB [.ams t] (some (F7 w c lm lb b kt p)) = some (match o with
      | some a => (.int a.res, some (F7 w ((c : Int) - a.s.length) lm lb b kt p))
      | none => (.int 0, some (F7 w c lm lb b kt p))) := by
  have I : Inv t (back w lb c) ⟨0, t.length, 0, 0, false⟩ := ⟨hn, Nat.le_refl _, fun _ => rfl, .inl ⟨rfl, rfl⟩, (fun h => by cases h), .inl ⟨rfl, rfl⟩⟩
  obtain ⟨y, hy, hR⟩ := bs_ok T.sorted 100 I (by unfold fuelOf; dsimp only; simp; omega)
  obtain ⟨k, d, cm, a, i2, hl⟩ := bs_loop t w (orc tb K) c lb lm b kt p T h1 h2 100 (loc := base9 t c lb 0 t.length 0 0 false) (.inl ⟨rfl, rfl⟩) I hy
  have hyi : y.i < 100 := by
    rcases hR with ⟨a, ha, _⟩ | ⟨h0, _⟩
    · have := (List.getElem?_eq_some_iff.mp ha).1; omega
    · omega
  obtain ⟨o, ho, hB⟩ := chain_ok T hR hn 100 hyi
  obtain ⟨loc', hc⟩ := chain_loop t w (orc tb K) c lb lm b kt p 100 (k := k) (d := d) (cm := cm) (a0 := a) (i2 := i2) ho
  refine ⟨o, hB, ?_⟩
  have hbody : exs tb (orc tb K) bFindAmongB ⟨[(.self, .self), (.v, .ams t)], some (F7 w c lm lb b kt p)⟩ = exs tb (orc tb K) (blk [.whil (.bool true) bFindLoop, .whil (.bool true) bFindBack, .ret .neg1]) ⟨base9 t c lb 0 t.length 0 0 false, some (F7 w c lm lb b kt p)⟩ := by
    unfold bFindAmongB
    simp only [blk]
    simp only [exs, xs1, xs2, xs3, xs4, xs5, xs6, xs7, xs8, xs9, xs10, xs11, xs12, xs13, xs14, xs15, xs16, xs17, xv1, xv2, xv3, xv4, xv5, xv6, xv7, xv8, xv9, xv10, xv11, xv12, xv13, xv14, xv15, xv16, xv17, xv18, xv19, xv20, xv21, xv22, xv23, xv24, xv25, xv26, xv27, getN, getF, selfOk, setL, putN, lenM, F7, fC, fLb, Option.map_some, Option.bind_some, asI, asS, asA, asB, as1, addI, cmpI, cmpS, cmpT, cmpN, evP, asBool, if_true, Option.bind_some, Option.map_some]
    rfl
  have h3 : exs tb (orc tb K) (blk [.whil (.bool true) bFindLoop, .whil (.bool true) bFindBack, .ret .neg1]) ⟨base9 t c lb 0 t.length 0 0 false, some (F7 w c lm lb b kt p)⟩ = _ := exs_next (r := blk [.whil (.bool true) bFindBack, .ret .neg1]) hl
  cases o with
  | some a' => exact orc_ret (ps := [.v]) (b := bFindAmongB) rfl rfl (hbody.trans (h3.trans (exs_out (r := blk [.ret .neg1]) hc (by simp))))
  | none => exact orc_ret (ps := [.v]) (b := bFindAmongB) rfl rfl (hbody.trans (h3.trans (exs_out (r := blk [.ret .neg1]) hc (by simp))))
end
end DaWalk
open PySem PySem.W PyProof.Rows DaHead
set_option Elab.async false
set_option linter.unusedVariables false
set_option linter.constructorNameAsVariable false
set_option linter.unusedSimpArgs false
set_option maxRecDepth 100000
namespace DaWalk
/-- the longest of these ends that the text bears, nothing where none -/
noncomputable def endStep (text : List Nat) (found e : List Nat) : List Nat := if e.isSuffixOf text && decide (found.length < e.length) then e else found
noncomputable def endOf (text : List Nat) (ends : List (List Nat)) : List Nat := ends.foldl (endStep text) []
theorem endStep_len (text found e : List Nat) : found.length ≤ (endStep text found e).length := by
  unfold endStep
  split
  · rename_i h
    simp only [Bool.and_eq_true, decide_eq_true_eq] at h
    omega
  · exact Nat.le_refl _
theorem fold_len (text : List Nat) : ∀ (ends : List (List Nat)) (found : List Nat), found.length ≤ (ends.foldl (endStep text) found).length
  | [], _ => Nat.le_refl _
  | e :: r, found => Nat.le_trans (endStep_len text found e) (fold_len text r _)
theorem fold_max (text : List Nat) : ∀ (ends : List (List Nat)) (found e : List Nat), e ∈ ends → e <:+ text → e.length ≤ (ends.foldl (endStep text) found).length
  | x :: r, found, e, h, hs => by
    rcases List.mem_cons.mp h with rfl | h
    · refine Nat.le_trans ?_ (fold_len text r _)
      unfold endStep
      rw [List.isSuffixOf_iff_suffix.mpr hs]
      by_cases q : found.length < e.length
      · simp [q]
      · simp [q]; omega
    · exact fold_max text r _ e h hs
theorem fold_mem (text : List Nat) : ∀ (ends : List (List Nat)) (found : List Nat), ends.foldl (endStep text) found = found ∨ (ends.foldl (endStep text) found ∈ ends ∧ ends.foldl (endStep text) found <:+ text)
  | [], _ => .inl rfl
  | x :: r, found => by
    rcases fold_mem text r (endStep text found x) with h | ⟨h1, h2⟩
    · show _ = _ ∨ _
      rw [List.foldl_cons, h]
      unfold endStep
      split
      · rename_i q
        simp only [Bool.and_eq_true, decide_eq_true_eq] at q
        exact .inr ⟨List.mem_cons_self, List.isSuffixOf_iff_suffix.mp q.1⟩
      · exact .inl rfl
    · exact .inr ⟨List.mem_cons_of_mem _ h1, h2⟩
/-- the table bears just these ends -/
noncomputable def sameEnds (t : List Am) (ends : List (List Nat)) : Bool := (t.all fun a => ends.contains a.s) && ends.all fun e => t.any fun a => a.s == e
theorem best_end {t : List Am} {ends : List (List Nat)} {text : List Nat} {o : Option Am} (T : TabOk t) (hs : sameEnds t ends = true) (h : Best t text.reverse o) :
    match o with
    | some a => a ∈ t ∧ endOf text ends = a.s ∧ a.s <:+ text ∧ a.s ≠ []
    | none => endOf text ends = [] := by
  obtain ⟨s1, s2⟩ := Bool.and_eq_true_iff.mp hs
  have to : ∀ e, e ∈ ends → ∃ (i : Nat) (a : Am), t[i]? = some a ∧ a.s = e := fun e he => by
    obtain ⟨a, ha, q⟩ := List.any_eq_true.mp (List.all_eq_true.mp s2 e he)
    obtain ⟨i, hi⟩ := List.getElem?_of_mem ha
    exact ⟨i, a, hi, beq_iff_eq.mp q⟩
  have pre : ∀ {a : Am}, a.s <:+ text ↔ keyA a <+: text.reverse := fun {a} => by unfold keyA; exact List.reverse_prefix.symm
  have hm := fold_mem text ends []
  cases o with
  | some a =>
    obtain ⟨⟨i, hi⟩, h1, h2⟩ := h
    have hsuf := pre.mpr h1
    have hpos := (T.pos i a hi).1
    have hin : a.s ∈ ends := by
      have := List.all_eq_true.mp s1 a (List.mem_of_getElem? hi)
      simpa using this
    have hmax := fold_max text ends [] a.s hin hsuf
    refine ⟨List.mem_of_getElem? hi, ?_, hsuf, fun q => by rw [q] at hpos; simp at hpos⟩
    rcases hm with h3 | ⟨h3, h4⟩
    · rw [h3] at hmax; simp at hmax; rw [hmax] at hpos; simp at hpos
    · obtain ⟨m, x, hx, ex⟩ := to _ h3
      have h5 := h2 m x hx (pre.mp (by rw [ex]; exact h4))
      rw [ex] at h5
      have hlen : (ends.foldl (endStep text) []).length = a.s.length := by omega
      exact (List.suffix_of_suffix_length_le h4 hsuf (by omega)).eq_of_length hlen
  | none =>
    rcases hm with h3 | ⟨h3, h4⟩
    · exact h3
    · obtain ⟨m, x, hx, ex⟩ := to _ h3
      exact absurd (pre.mp (by rw [ex]; exact h4)) (h m x hx)
theorem same0 : sameEnds t0 lMain = true := by decide +kernel
theorem same1 : sameEnds t1 lPairs = true := by decide +kernel
theorem same2 : sameEnds t2 lOther = true := by decide +kernel
/-! the steps -/
noncomputable def step1 (w : List Nat) (p : Nat) : List Nat :=
  let st := w.take (w.length - (endOf (w.drop p) lMain).length)
  if endOf (w.drop p) lMain ≠ [115] ∨ sEnding.contains (st.getD (st.length - 1) 0) = true then st else w
noncomputable def pair (w : List Nat) (p : Nat) : List Nat := if endOf (w.drop p) lPairs = [] then w else w.take (w.length - 1)
noncomputable def igst (w : List Nat) : List Nat := if [105, 103, 115, 116].isSuffixOf w then w.take (w.length - 2) else w
noncomputable def other (w : List Nat) (p : Nat) : List Nat :=
  if endOf (w.drop p) lOther = [108, 248, 115, 116] then w.take (w.length - 1)
  else if endOf (w.drop p) lOther ≠ [] then pair (w.take (w.length - (endOf (w.drop p) lOther).length)) p else w
noncomputable def undouble (w : List Nat) (p : Nat) : List Nat :=
  if p < w.length ∧ sUndouble.contains (w.getD (w.length - 1) 0) = true ∧ w.getD (w.length - 2) 0 = w.getD (w.length - 1) 0 then w.take (w.length - 1) else w
noncomputable def apo (w : List Nat) : List Nat := if [39].isSuffixOf w then w.take (w.length - 1) else w
noncomputable def stemL (w : List Nat) : List Nat := if w.length < 3 then w else apo (undouble (other (igst (pair (step1 w (reg w)) (reg w))) (reg w)) (reg w))
end DaWalk
open PySem PySem.W PyProof.Rows DaHead
set_option Elab.async false
set_option linter.unusedVariables false
set_option linter.constructorNameAsVariable false
set_option linter.unusedSimpArgs false
set_option maxRecDepth 100000
namespace DaWalk
theorem res1 : ∀ a ∈ t1, a.res = -1 := by decide
section
variable (w : List Nat) (K : Nat) {p : Nat} {b0 k0 : Int}
theorem back_is : back w p w.length = (w.drop p).reverse := by
  unfold back
  rw [List.take_of_length_le (by simp)]
theorem suf_len {e : List Nat} (h : e <:+ w.drop p) : p + e.length ≤ w.length ∨ e = [] := by
  by_cases hp : p ≤ w.length
  · have := h.length_le
    simp at this
    exact .inl (by omega)
  · have : w.drop p = [] := List.drop_eq_nil_of_le (by omega)
    rw [this] at h
    exact .inr (List.suffix_nil.mp h)
noncomputable abbrev n_ (w : List Nat) : Int := w.length
/-- a field state between the steps -/
noncomputable def Mid (w : List Nat) (p : Nat) (fl : Fl) : Prop := ∃ c b k : Int, fl = some (F7 w c (n_ w) 0 b k p)
theorem short_pair {b : MS} {r : MS} (O : Orc) {loc : FL} {lb : Int} (h : w.length < p) : evT tb O (.cmp .Lt fC fP) ⟨(.self, .self) :: loc, some (F7 w (n_ w) (n_ w) lb b0 k0 p)⟩ = some (true, ⟨(.self, .self) :: loc, some (F7 w (n_ w) (n_ w) lb b0 k0 p)⟩) := by
  have e : (w.length : Int) < p := by omega
  simp [xt1, xt2, xt3, xt4, xt5, xt6, xt8, xt12, xt13, xt14, xt15, xt23, xt27, xt28, xt29, xt30, xt31, xt32, xt33, xv1, xv2, xv3, xv4, xv5, xv6, xv7, xv8, xv9, xv10, xv11, xv12, xv13, xv14, xv15, xv16, xv17, xv18, xv19, xv20, xv21, xv22, xv23, xv24, xv25, xv26, xv27, getF, selfOk, getN, F7, fC, fP, cmpM, e, n_]
noncomputable abbrev lP (v : Int) : List (Nm × MV) := [(.self, .self), (.v1, .int v)]
noncomputable abbrev lP3 (v : Int) : List (Nm × MV) := [(.self, .self), (.v1, .int v), (.v3, .int 0)]
noncomputable def bPair2 : MS := blk [.ifs (.cmp .Eq (.call1 .findAmongB (.clsv .a1)) (.int 0)) (blk [.asgF .limitBackward (.loc .v3), rF]) .nil, .asgF .bra fC, .asgF .limitBackward (.loc .v3), .asgF .cursor (.sub fL (.loc .v1)),
  .ifs (.cmp .LtE fC fLb) (blk [rF]) .nil, .subF .cursor (.int 1), .asgF .bra fC, .expr (.call0 .sliceDel), rT]
theorem pair_head {O : Orc} (e : ¬ ((w.length : Int) < p)) : exs tb O bRPair ⟨[(.self, .self)], some (F7 w (n_ w) (n_ w) 0 b0 k0 p)⟩ = exs tb O bPair2 ⟨lP3 (n_ w - n_ w), some (F7 w (n_ w) (n_ w) p b0 (n_ w) p)⟩ := by
  unfold bRPair
  refine (exs_next (r := blk _) (τ := ⟨lP (n_ w - n_ w), some (F7 w (n_ w) (n_ w) 0 b0 k0 p)⟩) rfl).trans ?_
  refine (exs_next (r := blk _) (s_if0 (t_no e rfl) rfl)).trans ?_
  refine (exs_next (r := blk _) (τ := ⟨lP3 (n_ w - n_ w), some (F7 w (n_ w) (n_ w) 0 b0 k0 p)⟩) rfl).trans ?_
  refine (exs_next (r := blk _) (τ := ⟨lP3 (n_ w - n_ w), some (F7 w (n_ w) (n_ w) p b0 k0 p)⟩) rfl).trans ?_
  exact exs_next (r := bPair2) (τ := ⟨lP3 (n_ w - n_ w), some (F7 w (n_ w) (n_ w) p b0 (n_ w) p)⟩) rfl
theorem cmp_m1 : cmpM .Eq (.int (-1)) (.int 0) = some false := by decide +kernel
theorem pair_back (w : List Nat) : n_ w - (n_ w - n_ w) = n_ w := by omega
theorem rPair_is (hz : w.length ≤ 60) : ∃ r fl', orc tb (K + 4) .rPair [] (some (F7 w (n_ w) (n_ w) 0 b0 k0 p)) = some (.bool r, fl') ∧ Mid (pair w p) p fl' := by
  by_cases hp : w.length < p
  · refine ⟨false, some (F7 w (n_ w) (n_ w) 0 b0 k0 p), ?_, ?_⟩
    · have e : (w.length : Int) < p := by omega
      refine orc_ret (ps := []) (b := bRPair) (lc := lP (n_ w - n_ w)) rfl rfl ?_
      unfold bRPair
      refine (exs_next (r := blk _) (τ := ⟨lP (n_ w - n_ w), some (F7 w (n_ w) (n_ w) 0 b0 k0 p)⟩) rfl).trans ?_
      exact exs_out (r := blk _) (s_if1 (t_yes e rfl) rfl) (by simp)
    · have : pair w p = w := by
        unfold pair
        rw [List.drop_eq_nil_of_le (by omega)]
        rw [if_pos (by decide)]
      rw [this]
      exact ⟨_, _, _, rfl⟩
  · obtain ⟨o, hB, hf⟩ := find_is t1 w w.length p (n_ w) b0 (n_ w) p (K + 2) tab1 (by decide) (by decide) (by omega) (Nat.le_refl _)
    rw [back_is] at hB
    have hE := best_end tab1 same1 hB
    have e : ¬ ((w.length : Int) < p) := by omega
    cases o with
    | none =>
      dsimp only at hf hE
      refine ⟨false, some (F7 w (n_ w) (n_ w) 0 b0 (n_ w) p), ?_, ?_⟩
      · refine orc_ret (ps := []) (b := bRPair) (lc := lP3 (n_ w - n_ w)) rfl rfl ((pair_head w e).trans ?_)
        exact exs_out (r := blk _) (s_if1 (t_cc (ev_c1 rfl rfl hf) rfl (show cmpM .Eq (.int 0) (.int 0) = some true from rfl)) rfl) (by simp)
      · have : pair w p = w := by unfold pair; rw [if_pos hE]
        rw [this]
        exact ⟨_, _, _, rfl⟩
    | some a =>
      dsimp only at hf hE
      obtain ⟨ha, hE, hsuf, hne⟩ := hE
      have hlen : p + a.s.length ≤ w.length := (suf_len w hsuf).resolve_right hne
      have hpos : 0 < a.s.length := List.length_pos_iff.mpr hne
      have hres : a.res = -1 := res1 a ha
      have e1 : (w.length : Int) - (w.length : Int) = 0 := by omega
      have hdel := sliceDel_is w K (c := w.length - 1) (b := w.length - 1) (n := w.length) (by omega) rfl (Nat.le_refl _) (by omega) 0 p
      have e2 : ((w.length - 1 : Nat) : Int) = (w.length : Int) - 1 := by omega
      have e3 : ¬ (w.length : Int) ≤ 0 := by omega
      have e4 : w ≠ [] := fun q => by
        have h0 : w.length = 0 := by rw [q]; rfl
        omega
      refine ⟨true, some (F7 (w.take (w.length - 1)) (w.length - 1 : Nat) (w.length - 1 : Nat) 0 (w.length - 1 : Nat) (w.length - 1 : Nat) p), ?_, ?_⟩
      · rw [hres] at hf
        rw [e2] at hdel ⊢
        refine orc_ret (ps := []) (b := bRPair) (lc := lP3 (n_ w - n_ w)) rfl rfl ((pair_head w e).trans ?_)
        unfold bPair2
        have ht : evT tb (orc tb (K + 3)) (.cmp .Eq (.call1 .findAmongB (.clsv .a1)) (.int 0)) ⟨lP3 (n_ w - n_ w), some (F7 w (n_ w) (n_ w) p b0 (n_ w) p)⟩ = some (false, ⟨lP3 (n_ w - n_ w), some (F7 w (n_ w - a.s.length) (n_ w) p b0 (n_ w) p)⟩) := t_cc (ev_c1 rfl rfl hf) rfl cmp_m1
        refine (exs_next (r := blk _) (s_if0 ht rfl)).trans ?_
        refine (exs_next (r := blk _) (τ := ⟨lP3 (n_ w - n_ w), some (F7 w (n_ w - a.s.length) (n_ w) p (n_ w - a.s.length) (n_ w) p)⟩) rfl).trans ?_
        refine (exs_next (r := blk _) (τ := ⟨lP3 (n_ w - n_ w), some (F7 w (n_ w - a.s.length) (n_ w) 0 (n_ w - a.s.length) (n_ w) p)⟩) rfl).trans ?_
        refine (exs_next (r := blk _) (τ := ⟨lP3 (n_ w - n_ w), some (F7 w (n_ w - (n_ w - n_ w)) (n_ w) 0 (n_ w - a.s.length) (n_ w) p)⟩) rfl).trans ?_
        rw [pair_back]
        refine (exs_next (r := blk _) (s_if0 (t_no e3 rfl) rfl)).trans ?_
        refine (exs_next (r := blk _) (τ := ⟨lP3 (n_ w - n_ w), some (F7 w (n_ w - 1) (n_ w) 0 (n_ w - a.s.length) (n_ w) p)⟩) rfl).trans ?_
        refine (exs_next (r := blk _) (τ := ⟨lP3 (n_ w - n_ w), some (F7 w (n_ w - 1) (n_ w) 0 (n_ w - 1) (n_ w) p)⟩) rfl).trans ?_
        exact (exs_next (r := blk [rT]) (s_expr (ev_c0 rfl hdel))).trans rfl
      · have : pair w p = w.take (w.length - 1) := by unfold pair; rw [if_neg (by rw [hE]; exact hne)]
        rw [this]
        exact ⟨_, _, _, by rw [show n_ (w.take (w.length - 1)) = ((w.length - 1 : Nat) : Int) from by unfold n_; simp]⟩
end
end DaWalk
open PySem PySem.W PyProof.Rows DaHead
set_option Elab.async false
set_option linter.unusedVariables false
set_option linter.constructorNameAsVariable false
set_option linter.unusedSimpArgs false
set_option maxRecDepth 100000
namespace DaWalk
theorem res0 : ∀ a ∈ t0, (a.res = 1 ∧ a.s ≠ [115]) ∨ (a.res = 2 ∧ a.s = [115]) := by decide
theorem res2 : ∀ a ∈ t2, (a.res = 1 ∧ a.s ≠ [108, 248, 115, 116]) ∨ (a.res = 2 ∧ a.s = [108, 248, 115, 116]) := by decide
section
variable (w : List Nat) (K : Nat) {p : Nat} {b0 k0 : Int}
theorem mid_take {b : Nat} (h : b ≤ w.length) (c k : Int) : Mid (w.take b) p (some (F7 (w.take b) c b 0 b k p)) := ⟨c, b, k, by rw [show n_ (w.take b) = (b : Int) from by unfold n_; simp [Nat.min_eq_left h]]⟩
noncomputable def bMain2 : MS := blk [.ifs (.cmp .Eq (.loc .amongVar) (.int 0)) (blk [.asgF .limitBackward (.loc .v2), rF]) .nil, .asgF .bra fC, .asgF .limitBackward (.loc .v2),
  .ifs (.cmp .Eq (.loc .amongVar) (.int 1)) (blk [.expr (.call0 .sliceDel)]) (blk [.ifs (.not (.call1 .inGroupingB (.clsv .gS))) (blk [rF]) .nil, .expr (.call0 .sliceDel)]), rT]
noncomputable abbrev lM (r : Int) : List (Nm × MV) := [(.self, .self), (.v2, .int 0), (.amongVar, .int r)]
theorem main_head {O : Orc} {r : Int} {fl1 : Fl} (e : ¬ ((w.length : Int) < p)) (hf : O .findAmongB [.ams t0] (some (F7 w w.length (n_ w) p b0 (n_ w) p)) = some (.int r, fl1)) :
    exs tb O bRMain ⟨[(.self, .self)], some (F7 w (n_ w) (n_ w) 0 b0 k0 p)⟩ = exs tb O bMain2 ⟨lM r, fl1⟩ := by
  unfold bRMain
  refine (exs_next (r := blk _) (s_if0 (t_no e rfl) rfl)).trans ?_
  refine (exs_next (r := blk _) (τ := ⟨[(.self, .self), (.v2, .int 0)], some (F7 w (n_ w) (n_ w) 0 b0 k0 p)⟩) rfl).trans ?_
  refine (exs_next (r := blk _) (τ := ⟨[(.self, .self), (.v2, .int 0)], some (F7 w (n_ w) (n_ w) p b0 k0 p)⟩) rfl).trans ?_
  refine (exs_next (r := blk _) (τ := ⟨[(.self, .self), (.v2, .int 0)], some (F7 w (n_ w) (n_ w) p b0 (n_ w) p)⟩) rfl).trans ?_
  exact exs_next (r := bMain2) (s_asg (ev_c1 rfl rfl hf))
theorem one_no {O : Orc} {fl : Fl} : evT tb O (.cmp .Eq (.loc .amongVar) (.int 1)) ⟨lM 2, fl⟩ = some (false, ⟨lM 2, fl⟩) := rfl
/-- behind a hit -/
theorem main_hit {O : Orc} {r : Int} {b : Nat} (h : r ≠ 0) : exs tb O bMain2 ⟨lM r, some (F7 w b (n_ w) p b0 (n_ w) p)⟩ =
    exs tb O (blk [.ifs (.cmp .Eq (.loc .amongVar) (.int 1)) (blk [.expr (.call0 .sliceDel)]) (blk [.ifs (.not (.call1 .inGroupingB (.clsv .gS))) (blk [rF]) .nil, .expr (.call0 .sliceDel)]), rT]) ⟨lM r, some (F7 w b (n_ w) 0 b (n_ w) p)⟩ := by
  unfold bMain2
  refine (exs_next (r := blk _) (s_if0 (show evT tb O (.cmp .Eq (.loc .amongVar) (.int 0)) ⟨lM r, some (F7 w b (n_ w) p b0 (n_ w) p)⟩ = some (false, _) from congrArg (fun b => some (b, _)) (beq_eq_false_iff_ne.mpr h)) rfl)).trans ?_
  refine (exs_next (r := blk _) (τ := ⟨lM r, some (F7 w b (n_ w) p b (n_ w) p)⟩) rfl).trans ?_
  exact exs_next (r := blk _) rfl
theorem rMain_is (hz : w.length ≤ 60) (hp : p ≤ w.length) (hp3 : 1 ≤ p) : ∃ r fl', orc tb (K + 4) .rMain [] (some (F7 w (n_ w) (n_ w) 0 b0 k0 p)) = some (.bool r, fl') ∧ Mid (step1 w p) p fl' := by
  obtain ⟨o, hB, hf⟩ := find_is t0 w w.length p (n_ w) b0 (n_ w) p (K + 2) tab0 (by decide) (by decide) (by omega) (Nat.le_refl _)
  rw [back_is] at hB
  have hE := best_end tab0 same0 hB
  have e : ¬ ((w.length : Int) < p) := by omega
  cases o with
  | none =>
    dsimp only at hf hE
    refine ⟨false, some (F7 w (n_ w) (n_ w) 0 b0 (n_ w) p), ?_, ?_⟩
    · exact orc_ret (ps := []) (b := bRMain) (lc := lM 0) rfl rfl ((main_head w e hf).trans rfl)
    · have : step1 w p = w := by
        unfold step1
        rw [hE]
        simp
      rw [this]
      exact ⟨_, _, _, rfl⟩
  | some a =>
    dsimp only at hf hE
    obtain ⟨ha, hE, hsuf, hne⟩ := hE
    have hlen : p + a.s.length ≤ w.length := (suf_len w hsuf).resolve_right hne
    have hpos : 0 < a.s.length := List.length_pos_iff.mpr hne
    have e2 : (w.length : Int) - a.s.length = ((w.length - a.s.length : Nat) : Int) := by omega
    rw [e2] at hf
    generalize hb : w.length - a.s.length = b at hf
    have hb1 : b < w.length := by omega
    have hb2 : p ≤ b := by omega
    have hst : step1 w p = if a.s ≠ [115] ∨ sEnding.contains ((w.take b).getD ((w.take b).length - 1) 0) = true then w.take b else w := by
      unfold step1
      rw [hE, hb]
    rcases res0 a ha with ⟨hr, hs⟩ | ⟨hr, hs⟩
    · rw [hr] at hf
      have hdel := sliceDel_is w K (c := b) (b := b) (n := w.length) hb1 rfl (Nat.le_refl _) (by omega) 0 p
      refine ⟨true, some (F7 (w.take b) b b 0 b b p), ?_, ?_⟩
      · refine orc_ret (ps := []) (b := bRMain) (lc := lM 1) rfl rfl ((main_head w e hf).trans ((main_hit w (by decide)).trans ?_))
        exact (exs_next (r := blk [rT]) (s_if1 rfl (exs_last (s_expr (ev_c0 rfl hdel))))).trans rfl
      · rw [hst, if_pos (.inl hs)]
        exact mid_take w (by omega) _ _
    · rw [hr] at hf
      have hG := inG_is w (K + 2) sEnding (c := b) (lb := 0) (by omega) (by omega) (by omega) (n_ w) b (n_ w) p
      have hget : (w.take b).getD ((w.take b).length - 1) 0 = w[b - 1]'(by omega) := by
        rw [List.length_take, Nat.min_eq_left (by omega), List.getD_eq_getElem?_getD, List.getElem?_take_of_lt (by omega), List.getElem?_eq_getElem (by omega)]
        rfl
      rw [hget] at hst
      cases hc : sEnding.contains (w[b - 1]'(by omega)) with
      | true =>
        rw [if_pos hc] at hG
        have hdel := sliceDel_is w K (c := b - 1) (b := b) (n := w.length) hb1 rfl (by omega) (by omega) 0 p
        refine ⟨true, some (F7 (w.take b) (b - 1 : Nat) b 0 b b p), ?_, ?_⟩
        · refine orc_ret (ps := []) (b := bRMain) (lc := lM 2) rfl rfl ((main_head w e hf).trans ((main_hit w (by decide)).trans ?_))
          exact (exs_next (r := blk [rT]) (s_if0 one_no ((exs_next (r := blk _) (s_if0 (t_not0 (t_c1 (ev_c1 rfl rfl hG))) rfl)).trans (exs_last (s_expr (ev_c0 rfl hdel)))))).trans rfl
        · rw [hst, if_pos (.inr hc)]
          exact mid_take w (by omega) _ _
      | false =>
        rw [if_neg (by rw [hc]; decide)] at hG
        refine ⟨false, some (F7 w b (n_ w) 0 b (n_ w) p), ?_, ?_⟩
        · refine orc_ret (ps := []) (b := bRMain) (lc := lM 2) rfl rfl ((main_head w e hf).trans ((main_hit w (by decide)).trans ?_))
          exact exs_out (r := blk [rT]) (s_if0 one_no (exs_out (r := blk _) (s_if1 (t_not1 (t_c1 (ev_c1 rfl rfl hG))) rfl) (by simp))) (by simp)
        · rw [hst, if_neg (by rw [hc]; simp [hs])]
          exact ⟨_, _, _, rfl⟩
end
end DaWalk
open PySem PySem.W PyProof.Rows DaHead
set_option Elab.async false
set_option linter.unusedVariables false
set_option linter.constructorNameAsVariable false
set_option linter.unusedSimpArgs false
set_option maxRecDepth 100000
namespace DaWalk
noncomputable def bOther1 : MS := blk [.asgF .ket fC, .ifs (.not (.call1 .eqSB (.str [115, 116]))) (blk [.raise_ .lab0]) .nil, .asgF .bra fC, .ifs (.not (.call1 .eqSB (.str [105, 103]))) (blk [.raise_ .lab0]) .nil, .expr (.call0 .sliceDel)]
noncomputable def bOther2 : MS := blk [.asgF .cursor (.sub fL (.loc .v1)), .ifs (.cmp .Lt fC fP) (blk [rF]) .nil, .asgL .v3 fLb, .asgF .limitBackward fP, .asgF .ket fC, .asgL .amongVar (.call1 .findAmongB (.clsv .a2)),
  .ifs (.cmp .Eq (.loc .amongVar) (.int 0)) (blk [.asgF .limitBackward (.loc .v3), rF]) .nil, .asgF .bra fC, .asgF .limitBackward (.loc .v3),
  .ifs (.cmp .Eq (.loc .amongVar) (.int 1)) (blk [.expr (.call0 .sliceDel), .asgL .v4 (.sub fL fC), .expr (.call0 .rPair), .asgF .cursor (.sub fL (.loc .v4))]) (blk [.expr (.call1 .sliceFrom (.str [108, 248, 115]))]), rT]
theorem bROther_eq : bROther = .cons (.asgL .v1 (.sub fL fC)) (.cons (.try_ bOther1 .lab0) bOther2) := rfl
theorem igst_iff (w : List Nat) : [105, 103, 115, 116].isSuffixOf w = ([115, 116].isSuffixOf w && [105, 103].isSuffixOf (w.take (w.length - 2))) := by
  rw [Bool.eq_iff_iff, Bool.and_eq_true, List.isSuffixOf_iff_suffix, List.isSuffixOf_iff_suffix, List.isSuffixOf_iff_suffix]
  constructor
  · rintro ⟨u, rfl⟩
    refine ⟨⟨u ++ [105, 103], by simp⟩, ⟨u, ?_⟩⟩
    have : (u ++ [105, 103, 115, 116]).length - 2 = (u ++ [105, 103]).length := by simp
    rw [this, show u ++ [105, 103, 115, 116] = (u ++ [105, 103]) ++ [115, 116] from by simp, List.take_left]
  · rintro ⟨⟨v, rfl⟩, ⟨u, h⟩⟩
    have : (v ++ [115, 116]).length - 2 = v.length := by simp
    rw [this, List.take_left] at h
    exact ⟨u, by rw [← h]; simp⟩
section
variable (w : List Nat) (K : Nat) {p : Nat} {b0 k0 : Int}
noncomputable abbrev lO : FL := [(.self, .self), (.v1, .int 0)]
theorem other1 (hz : w.length ≤ 60) : ∃ o fl', exs tb (orc tb (K + 4)) bOther1 ⟨lO, some (F7 w (n_ w) (n_ w) 0 b0 k0 p)⟩ = some (o, ⟨lO, fl'⟩) ∧ (o = .next ∨ o = .exc .lab0) ∧ Mid (igst w) p fl' := by
  have h1 := eqS_is w (K + 3) [115, 116] (c := w.length) (lb := 0) (Nat.zero_le _) (Nat.le_refl _) (n_ w) b0 (n_ w) p
  have hd : (w.drop 0).take (w.length - 0) = w := by simp
  rw [hd] at h1
  cases hst : [115, 116].isSuffixOf w with
  | false =>
    rw [if_neg (by rw [hst]; decide)] at h1
    refine ⟨.exc .lab0, some (F7 w (n_ w) (n_ w) 0 b0 (n_ w) p), ?_, .inr rfl, ?_⟩
    · simp only [Int.natCast_zero] at h1
      refine (exs_next (r := blk _) (τ := ⟨lO, some (F7 w (n_ w) (n_ w) 0 b0 (n_ w) p)⟩) rfl).trans ?_
      exact exs_out (r := blk _) (s_if1 (t_not1 (t_c1 (ev_c1 rfl rfl h1))) rfl) (by simp)
    · have : igst w = w := by unfold igst; rw [igst_iff, hst]; rfl
      rw [this]; exact ⟨_, _, _, rfl⟩
  | true =>
    rw [if_pos hst] at h1
    have hl : 2 ≤ w.length := by
      have := (List.isSuffixOf_iff_suffix.mp hst).length_le
      simpa using this
    have e1 : (w.length : Int) - ([115, 116] : List Nat).length = ((w.length - 2 : Nat) : Int) := by simp; omega
    rw [e1] at h1
    have h2 := eqS_is w (K + 3) [105, 103] (c := w.length - 2) (lb := 0) (Nat.zero_le _) (by omega) (n_ w) (w.length - 2 : Nat) (n_ w) p
    have hd2 : (w.drop 0).take (w.length - 2 - 0) = w.take (w.length - 2) := by simp
    rw [hd2] at h2
    cases hig : [105, 103].isSuffixOf (w.take (w.length - 2)) with
    | false =>
      rw [if_neg (by rw [hig]; decide)] at h2
      refine ⟨.exc .lab0, some (F7 w (w.length - 2 : Nat) (n_ w) 0 (w.length - 2 : Nat) (n_ w) p), ?_, .inr rfl, ?_⟩
      · simp only [Int.natCast_zero] at h1 h2
        refine (exs_next (r := blk _) (τ := ⟨lO, some (F7 w (n_ w) (n_ w) 0 b0 (n_ w) p)⟩) rfl).trans ?_
        refine (exs_next (r := blk _) (s_if0 (t_not0 (t_c1 (ev_c1 rfl rfl h1))) rfl)).trans ?_
        refine (exs_next (r := blk _) (τ := ⟨lO, some (F7 w (w.length - 2 : Nat) (n_ w) 0 (w.length - 2 : Nat) (n_ w) p)⟩) rfl).trans ?_
        exact exs_out (r := blk _) (s_if1 (t_not1 (t_c1 (ev_c1 rfl rfl h2))) rfl) (by simp)
      · have : igst w = w := by unfold igst; rw [igst_iff, hst, hig]; rfl
        rw [this]; exact ⟨_, _, _, rfl⟩
    | true =>
      rw [if_pos hig] at h2
      have hl2 : 2 ≤ w.length - 2 := by
        have := (List.isSuffixOf_iff_suffix.mp hig).length_le
        simp at this; omega
      have e2 : ((w.length - 2 : Nat) : Int) - ([105, 103] : List Nat).length = ((w.length - 4 : Nat) : Int) := by simp; omega
      rw [e2] at h2
      have hdel := sliceDel_is w (K + 1) (c := w.length - 4) (b := w.length - 2) (n := w.length) (by omega) rfl (by omega) (by omega) 0 p
      refine ⟨.next, some (F7 (w.take (w.length - 2)) (w.length - 4 : Nat) (w.length - 2 : Nat) 0 (w.length - 2 : Nat) (w.length - 2 : Nat) p), ?_, .inl rfl, ?_⟩
      · simp only [Int.natCast_zero] at h1 h2
        refine (exs_next (r := blk _) (τ := ⟨lO, some (F7 w (n_ w) (n_ w) 0 b0 (n_ w) p)⟩) rfl).trans ?_
        refine (exs_next (r := blk _) (s_if0 (t_not0 (t_c1 (ev_c1 rfl rfl h1))) rfl)).trans ?_
        refine (exs_next (r := blk _) (τ := ⟨lO, some (F7 w (w.length - 2 : Nat) (n_ w) 0 (w.length - 2 : Nat) (n_ w) p)⟩) rfl).trans ?_
        refine (exs_next (r := blk _) (s_if0 (t_not0 (t_c1 (ev_c1 rfl rfl h2))) rfl)).trans ?_
        exact exs_last (s_expr (ev_c0 rfl hdel))
      · have : igst w = w.take (w.length - 2) := by unfold igst; rw [igst_iff, hst, hig]; rfl
        rw [this]; exact mid_take w (by omega) _ _
noncomputable abbrev lO3 : FL := [(.self, .self), (.v1, .int 0), (.v3, .int 0)]
noncomputable abbrev lO4 (r : Int) : FL := [(.self, .self), (.v1, .int 0), (.v3, .int 0), (.amongVar, .int r)]
noncomputable def bOther4 : MS := blk [.ifs (.cmp .Eq (.loc .amongVar) (.int 0)) (blk [.asgF .limitBackward (.loc .v3), rF]) .nil, .asgF .bra fC, .asgF .limitBackward (.loc .v3),
  .ifs (.cmp .Eq (.loc .amongVar) (.int 1)) (blk [.expr (.call0 .sliceDel), .asgL .v4 (.sub fL fC), .expr (.call0 .rPair), .asgF .cursor (.sub fL (.loc .v4))]) (blk [.expr (.call1 .sliceFrom (.str [108, 248, 115]))]), rT]
noncomputable def bOther5 : MS := blk [.ifs (.cmp .Eq (.loc .amongVar) (.int 1)) (blk [.expr (.call0 .sliceDel), .asgL .v4 (.sub fL fC), .expr (.call0 .rPair), .asgF .cursor (.sub fL (.loc .v4))]) (blk [.expr (.call1 .sliceFrom (.str [108, 248, 115]))]), rT]
theorem other_cur {O : Orc} {c0 : Int} : ex1 tb O (.asgF .cursor (.sub fL (.loc .v1))) ⟨lO, some (F7 w c0 (n_ w) 0 b0 k0 p)⟩ = some (.next, ⟨lO, some (F7 w (n_ w) (n_ w) 0 b0 k0 p)⟩) :=
  (show _ = some (Out.next, (⟨lO, some (F7 w (n_ w - 0) (n_ w) 0 b0 k0 p)⟩ : St)) from rfl).trans (by rw [Int.sub_zero])
theorem other_head {O : Orc} {c0 r : Int} {fl1 : Fl} (e : ¬ ((w.length : Int) < p)) (hf : O .findAmongB [.ams t2] (some (F7 w w.length (n_ w) p b0 (n_ w) p)) = some (.int r, fl1)) :
    exs tb O bOther2 ⟨lO, some (F7 w c0 (n_ w) 0 b0 k0 p)⟩ = exs tb O bOther4 ⟨lO4 r, fl1⟩ := by
  unfold bOther2
  refine (exs_next (r := blk _) (other_cur w)).trans ?_
  refine (exs_next (r := blk _) (s_if0 (t_no e rfl) rfl)).trans ?_
  refine (exs_next (r := blk _) (τ := ⟨lO3, some (F7 w (n_ w) (n_ w) 0 b0 k0 p)⟩) rfl).trans ?_
  refine (exs_next (r := blk _) (τ := ⟨lO3, some (F7 w (n_ w) (n_ w) p b0 k0 p)⟩) rfl).trans ?_
  refine (exs_next (r := blk _) (τ := ⟨lO3, some (F7 w (n_ w) (n_ w) p b0 (n_ w) p)⟩) rfl).trans ?_
  exact exs_next (r := bOther4) (s_asg (ev_c1 rfl rfl hf))
theorem other_hit {O : Orc} {r : Int} {b : Nat} (h : r ≠ 0) : exs tb O bOther4 ⟨lO4 r, some (F7 w b (n_ w) p b0 (n_ w) p)⟩ = exs tb O bOther5 ⟨lO4 r, some (F7 w b (n_ w) 0 b (n_ w) p)⟩ := by
  unfold bOther4
  refine (exs_next (r := blk _) (s_if0 (show evT tb O (.cmp .Eq (.loc .amongVar) (.int 0)) ⟨lO4 r, some (F7 w b (n_ w) p b0 (n_ w) p)⟩ = some (false, _) from congrArg (fun b => some (b, _)) (beq_eq_false_iff_ne.mpr h)) rfl)).trans ?_
  refine (exs_next (r := blk _) (τ := ⟨lO4 r, some (F7 w b (n_ w) p b (n_ w) p)⟩) rfl).trans ?_
  exact exs_next (r := bOther5) rfl
theorem o_yes {O : Orc} {fl : Fl} : evT tb O (.cmp .Eq (.loc .amongVar) (.int 1)) ⟨lO4 1, fl⟩ = some (true, ⟨lO4 1, fl⟩) := rfl
theorem o_no {O : Orc} {fl : Fl} : evT tb O (.cmp .Eq (.loc .amongVar) (.int 1)) ⟨lO4 2, fl⟩ = some (false, ⟨lO4 2, fl⟩) := rfl
theorem back_v4 (m b : Int) : m - (b - b) = m := by omega
theorem other2 (hz : w.length ≤ 60) {c0 : Int} : ∃ r loc' fl', exs tb (orc tb (K + 4)) bOther2 ⟨lO, some (F7 w c0 (n_ w) 0 b0 k0 p)⟩ = some (.ret (.bool r), ⟨loc', fl'⟩) ∧ Mid (other w p) p fl' := by
  by_cases hp : w.length < p
  · have e : (w.length : Int) < p := by omega
    refine ⟨false, lO, some (F7 w (n_ w) (n_ w) 0 b0 k0 p), ?_, ?_⟩
    · unfold bOther2
      refine (exs_next (r := blk _) (other_cur w)).trans ?_
      exact exs_out (r := blk _) (s_if1 (t_yes e rfl) rfl) (by simp)
    · have : other w p = w := by
        unfold other
        rw [List.drop_eq_nil_of_le (by omega)]
        rw [if_neg (by decide), if_neg (by decide)]
      rw [this]
      exact ⟨_, _, _, rfl⟩
  · obtain ⟨o, hB, hf⟩ := find_is t2 w w.length p (n_ w) b0 (n_ w) p (K + 3) tab2 (by decide) (by decide) (by omega) (Nat.le_refl _)
    rw [back_is] at hB
    have hE := best_end tab2 same2 hB
    have e : ¬ ((w.length : Int) < p) := by omega
    cases o with
    | none =>
      dsimp only at hf hE
      refine ⟨false, [(.self, .self), (.v1, .int 0), (.v3, .int 0), (.amongVar, .int 0)], some (F7 w (n_ w) (n_ w) 0 b0 (n_ w) p), ?_, ?_⟩
      · exact (other_head w e hf).trans rfl
      · have : other w p = w := by
          unfold other
          rw [hE]
          rw [if_neg (by decide), if_neg (by decide)]
        rw [this]
        exact ⟨_, _, _, rfl⟩
    | some a =>
      dsimp only at hf hE
      obtain ⟨ha, hE, hsuf, hne⟩ := hE
      have hlen : p + a.s.length ≤ w.length := (suf_len w hsuf).resolve_right hne
      have hpos : 0 < a.s.length := List.length_pos_iff.mpr hne
      have e2 : (w.length : Int) - a.s.length = ((w.length - a.s.length : Nat) : Int) := by omega
      rw [e2] at hf
      generalize hb : w.length - a.s.length = b at hf
      have hb1 : b < w.length := by omega
      rcases res2 a ha with ⟨hr, hs⟩ | ⟨hr, hs⟩
      · rw [hr] at hf
        have hdel := sliceDel_is w (K + 1) (c := b) (b := b) (n := w.length) hb1 rfl (Nat.le_refl _) (by omega) 0 p
        have ebl : (w.take b).length = b := by simp; omega
        obtain ⟨r, fl', hpair, ⟨c1, b1, k1, hmid⟩⟩ := rPair_is (w.take b) K (p := p) (b0 := b) (k0 := b) (by rw [ebl]; omega)
        rw [show n_ (w.take b) = (b : Int) from by unfold n_; rw [ebl]] at hpair
        subst hmid
        refine ⟨true, [(.self, .self), (.v1, .int 0), (.v3, .int 0), (.amongVar, .int 1), (.v4, .int (b - b))], some (F7 (pair (w.take b) p) (n_ (pair (w.take b) p)) (n_ (pair (w.take b) p)) 0 b1 k1 p), ?_, ?_⟩
        · refine (other_head w e hf).trans ((other_hit w (by decide)).trans ?_)
          unfold bOther5
          refine (exs_next (r := blk [rT]) (s_if1 o_yes ((exs_next (r := blk _) (s_expr (ev_c0 rfl hdel))).trans ((exs_next (r := blk _) rfl).trans ((exs_next (r := blk _) (s_expr (ev_c0 rfl hpair))).trans
            (exs_last (τ := ⟨[(.self, .self), (.v1, .int 0), (.v3, .int 0), (.amongVar, .int 1), (.v4, .int (b - b))], some (F7 (pair (w.take b) p) (n_ (pair (w.take b) p) - ((b : Int) - b)) (n_ (pair (w.take b) p)) 0 b1 k1 p)⟩) rfl)))))).trans ?_
          rw [back_v4]
          rfl
        · have : other w p = pair (w.take b) p := by
            unfold other
            rw [hE, if_neg hs, if_pos hne, hb]
          rw [this]
          exact ⟨_, _, _, rfl⟩
      · rw [hr] at hf
        have hfrom := sliceFrom_is w (K + 2) [108, 248, 115] (c := b) (b := b) (n := w.length) hb1 rfl (Nat.le_refl _) (by simp; omega) 0 p
        have hw : w.take b ++ [108, 248, 115] = w.take (w.length - 1) := by
          obtain ⟨u, hu⟩ := hsuf
          rw [hs] at hu
          have hwu : w = (w.take p ++ u) ++ [108, 248, 115, 116] := by
            conv => lhs; rw [← List.take_append_drop p w, ← hu]
            simp
          have hl4 : a.s.length = 4 := by rw [hs]; rfl
          generalize w.take p ++ u = v at hwu
          have hbv : b = v.length := by
            have := congrArg List.length hwu
            simp at this; omega
          rw [hwu, hbv, List.take_left]
          have : (v ++ [108, 248, 115, 116]).length - 1 = (v ++ [108, 248, 115]).length := by simp
          rw [this, show v ++ [108, 248, 115, 116] = (v ++ [108, 248, 115]) ++ [116] from by simp, List.take_left]
        have hl4 : a.s.length = 4 := by rw [hs]; rfl
        have e3 : b + ([108, 248, 115] : List Nat).length = w.length - 1 := by simp; omega
        rw [hw, e3] at hfrom
        refine ⟨true, [(.self, .self), (.v1, .int 0), (.v3, .int 0), (.amongVar, .int 2)], some (F7 (w.take (w.length - 1)) b (w.length - 1 : Nat) 0 b (w.length - 1 : Nat) p), ?_, ?_⟩
        · refine (other_head w e hf).trans ((other_hit w (by decide)).trans ?_)
          unfold bOther5
          exact (exs_next (r := blk [rT]) (s_if0 o_no (exs_last (s_expr (ev_c1 rfl rfl hfrom))))).trans rfl
        · have : other w p = w.take (w.length - 1) := by
            unfold other
            rw [hE, if_pos hs]
          rw [this]
          exact ⟨_, _, _, by rw [show n_ (w.take (w.length - 1)) = ((w.length - 1 : Nat) : Int) from by unfold n_; simp]⟩
theorem rOther_is (hz : w.length ≤ 60) : ∃ r fl', orc tb (K + 5) .rOther [] (some (F7 w (n_ w) (n_ w) 0 b0 k0 p)) = some (.bool r, fl') ∧ Mid (other (igst w) p) p fl' := by
  obtain ⟨o, fl1, h1, ho, ⟨c1, b1, k1, hm1⟩⟩ := other1 w K (p := p) (b0 := b0) (k0 := k0) hz
  subst hm1
  have hz' : (igst w).length ≤ 60 := by unfold igst; split <;> (try simp) <;> omega
  obtain ⟨r, loc', fl2, h2, hm2⟩ := other2 (igst w) K (p := p) (b0 := b1) (k0 := k1) hz' (c0 := c1)
  refine ⟨r, fl2, ?_, hm2⟩
  refine orc_ret (ps := []) (b := bROther) (lc := loc') rfl rfl ?_
  rw [bROther_eq]
  refine (exs_next (r := .cons (.try_ bOther1 .lab0) bOther2) (τ := ⟨lO, some (F7 w (n_ w) (n_ w) 0 b0 k0 p)⟩) (by first | rfl | simp [xs1, xs2, xs3, xs4, xs5, xs6, xs7, xs8, xs9, xs10, xs11, xs12, xs13, xs14, xs15, xs16, xs17, xv1, xv2, xv3, xv4, xv5, xv6, xv7, xv8, xv9, xv10, xv11, xv12, xv13, xv14, xv15, xv16, xv17, xv18, xv19, xv20, xv21, xv22, xv23, xv24, xv25, xv26, xv27, getF, selfOk, getN, setL, putN, fC, fL, subM, F7])).trans ?_
  refine (exs_next (r := bOther2) (τ := ⟨lO, some (F7 (igst w) c1 (n_ (igst w)) 0 b1 k1 p)⟩) ?_).trans h2
  simp only [xs1, xs2, xs3, xs4, xs5, xs6, xs7, xs8, xs9, xs10, xs11, xs12, xs13, xs14, xs15, xs16, xs17]
  rw [h1]
  rcases ho with rfl | rfl <;> rfl
end
end DaWalk
open PySem PySem.W PyProof.Rows DaHead
set_option Elab.async false
set_option linter.unusedVariables false
set_option linter.constructorNameAsVariable false
set_option linter.unusedSimpArgs false
set_option maxRecDepth 100000
namespace DaWalk
theorem suffix_one {l : List Nat} {x : Nat} (h : l ≠ []) : [x].isSuffixOf l = decide (l.getD (l.length - 1) 0 = x) := by
  rcases List.eq_nil_or_concat l with rfl | ⟨u, y, rfl⟩
  · exact absurd rfl h
  · rw [Bool.eq_iff_iff, List.isSuffixOf_iff_suffix, decide_eq_true_eq]
    have e : (u.concat y).getD ((u.concat y).length - 1) 0 = y := by simp [List.getD_eq_getElem?_getD]
    rw [e]
    constructor
    · rintro ⟨v, hv⟩
      have := congrArg List.getLast? hv
      simp at this
      exact this.symm
    · rintro rfl
      exact ⟨u, by simp⟩
section
variable (w : List Nat) (K : Nat) {p : Nat} {b0 k0 : Int}
noncomputable abbrev lU : List (Nm × MV) := [(.self, .self), (.v2, .int 0)]
noncomputable abbrev lUs (x : Nat) : List (Nm × MV) := [(.self, .self), (.v2, .int 0), (.sCh, .str [x])]
noncomputable def bUnd2 : MS := blk [.ifs (.not (.call1 .inGroupingB (.clsv .gUndouble))) (blk [.asgF .limitBackward (.loc .v2), rF]) .nil, .asgF .bra fC, .asgL .sCh (.call0 .sliceTo), .asgF .limitBackward (.loc .v2),
  .ifs (.not (.call1 .eqSB (.loc .sCh))) (blk [rF]) .nil, .expr (.call0 .sliceDel), rT]
noncomputable def bUnd3 : MS := blk [.ifs (.not (.call1 .eqSB (.loc .sCh))) (blk [rF]) .nil, .expr (.call0 .sliceDel), rT]
theorem und_head {O : Orc} (e : ¬ ((w.length : Int) < p)) : exs tb O bRUndouble ⟨[(.self, .self)], some (F7 w (n_ w) (n_ w) 0 b0 k0 p)⟩ = exs tb O bUnd2 ⟨lU, some (F7 w (n_ w) (n_ w) p b0 (n_ w) p)⟩ := by
  unfold bRUndouble
  refine (exs_next (r := blk _) (s_if0 (t_no e rfl) rfl)).trans ?_
  refine (exs_next (r := blk _) (τ := ⟨lU, some (F7 w (n_ w) (n_ w) 0 b0 k0 p)⟩) rfl).trans ?_
  refine (exs_next (r := blk _) (τ := ⟨lU, some (F7 w (n_ w) (n_ w) p b0 k0 p)⟩) rfl).trans ?_
  exact exs_next (r := bUnd2) (τ := ⟨lU, some (F7 w (n_ w) (n_ w) p b0 (n_ w) p)⟩) rfl
theorem und_no {k : Nat} (e : ¬ ((w.length : Int) < p)) (hG : orc tb k .inGroupingB [.sset sUndouble] (some (F7 w (n_ w) (n_ w) p b0 (n_ w) p)) = some (.bool false, some (F7 w (n_ w) (n_ w) p b0 (n_ w) p))) :
    orc tb (k + 1) .rUndouble [] (some (F7 w (n_ w) (n_ w) 0 b0 k0 p)) = some (.bool false, some (F7 w (n_ w) (n_ w) 0 b0 (n_ w) p)) := by
  refine orc_ret (ps := []) (b := bRUndouble) (lc := lU) rfl rfl ((und_head w e).trans ?_)
  unfold bUnd2
  exact exs_out (r := blk _) (s_if1 (t_not1 (t_c1 (ev_c1 rfl rfl hG))) rfl) (by simp)
theorem und_yes {O : Orc} {c : Int} {x : Nat} (hG : O .inGroupingB [.sset sUndouble] (some (F7 w (n_ w) (n_ w) p b0 (n_ w) p)) = some (.bool true, some (F7 w c (n_ w) p b0 (n_ w) p)))
    (hT : O .sliceTo [] (some (F7 w c (n_ w) p c (n_ w) p)) = some (.str [x], some (F7 w c (n_ w) p c (n_ w) p))) :
    exs tb O bUnd2 ⟨lU, some (F7 w (n_ w) (n_ w) p b0 (n_ w) p)⟩ = exs tb O bUnd3 ⟨lUs x, some (F7 w c (n_ w) 0 c (n_ w) p)⟩ := by
  unfold bUnd2
  refine (exs_next (r := blk _) (s_if0 (t_not0 (t_c1 (ev_c1 rfl rfl hG))) rfl)).trans ?_
  refine (exs_next (r := blk _) (τ := ⟨lU, some (F7 w c (n_ w) p c (n_ w) p)⟩) rfl).trans ?_
  refine (exs_next (r := blk _) (s_asg (ev_c0 rfl hT))).trans ?_
  exact exs_next (r := bUnd3) (τ := ⟨lUs x, some (F7 w c (n_ w) 0 c (n_ w) p)⟩) rfl
theorem und_one (w : List Nat) (h : 0 < w.length) : (w.drop (w.length - 1)).take (w.length - (w.length - 1)) = [w.getD (w.length - 1) 0] := by
  rcases List.eq_nil_or_concat w with rfl | ⟨u, y, rfl⟩
  · exact absurd h (Nat.lt_irrefl _)
  · have e : (u.concat y).length - 1 = u.length := by simp
    rw [e]
    simp [List.getD_eq_getElem?_getD]
theorem und_two (w : List Nat) (h : 1 < w.length) (x : Nat) : [x].isSuffixOf ((w.drop 0).take (w.length - 1 - 0)) = decide (w.getD (w.length - 2) 0 = x) := by
  have hl : (w.take (w.length - 1)).length = w.length - 1 := by rw [List.length_take]; exact Nat.min_eq_left (Nat.sub_le _ _)
  have hne : w.take (w.length - 1) ≠ [] := fun q => by rw [q] at hl; exact absurd hl (Nat.ne_of_lt (Nat.sub_pos_of_lt h))
  show [x].isSuffixOf (w.take (w.length - 1)) = _
  rw [suffix_one hne, hl, show w.length - 1 - 1 = w.length - 2 from rfl, List.getD_eq_getElem?_getD, List.getD_eq_getElem?_getD, List.getElem?_take_of_lt (by omega)]
theorem rUndouble_is (hz : w.length ≤ 60) (hp2 : 2 ≤ p) : ∃ r fl', orc tb (K + 4) .rUndouble [] (some (F7 w (n_ w) (n_ w) 0 b0 k0 p)) = some (.bool r, fl') ∧ Mid (undouble w p) p fl' := by
  by_cases hp : w.length < p
  · have e : (w.length : Int) < p := Int.ofNat_lt.mpr hp
    refine ⟨false, some (F7 w (n_ w) (n_ w) 0 b0 k0 p), ?_, ?_⟩
    · refine orc_ret (ps := []) (b := bRUndouble) (lc := [(.self, .self)]) rfl rfl ?_
      unfold bRUndouble
      exact exs_out (r := blk _) (s_if1 (t_yes e rfl) rfl) (by simp)
    · have : undouble w p = w := by unfold undouble; rw [if_neg (fun h => Nat.lt_asymm h.1 hp)]
      rw [this]; exact ⟨_, _, _, rfl⟩
  · have e : ¬ ((w.length : Int) < p) := fun h => hp (Int.ofNat_lt.mp h)
    by_cases hlt : p < w.length
    · have h1 : 1 < w.length := Nat.lt_of_le_of_lt (Nat.le_of_succ_le hp2) hlt
      have h0 : 0 < w.length := Nat.lt_of_succ_lt h1
      have hG := inG_is w (K + 2) sUndouble (c := w.length) (lb := p) (Int.ofNat_lt.mpr hlt) h0 (Nat.le_refl _) (n_ w) b0 (n_ w) p
      have g1 : w[w.length - 1]'(Nat.sub_lt h0 Nat.one_pos) = w.getD (w.length - 1) 0 := by rw [List.getD_eq_getElem?_getD, List.getElem?_eq_getElem (Nat.sub_lt h0 Nat.one_pos)]; rfl
      rw [g1] at hG
      cases hc : sUndouble.contains (w.getD (w.length - 1) 0) with
      | false =>
        rw [if_neg (by rw [hc]; decide)] at hG
        refine ⟨false, _, und_no w e hG, ?_⟩
        have : undouble w p = w := by unfold undouble; rw [if_neg (by rw [hc]; simp)]
        rw [this]; exact ⟨_, _, _, rfl⟩
      | true =>
        rw [if_pos hc] at hG
        have hT := sliceTo_is w (K + 2) (c := w.length - 1) (b := w.length - 1) (n := w.length) (lm := n_ w) (Nat.sub_le _ _) (Int.le_refl _) (Int.le_refl _) p p
        rw [und_one w h0] at hT
        have hS := eqS_is w (K + 2) [w.getD (w.length - 1) 0] (c := w.length - 1) (lb := 0) (Nat.zero_le _) (Nat.sub_le _ _) (n_ w) (w.length - 1 : Nat) (n_ w) p
        rw [und_two w h1] at hS
        have e1 : ((w.length - 1 : Nat) : Int) - ([w.getD (w.length - 1) 0] : List Nat).length = ((w.length - 2 : Nat) : Int) := by
          show ((w.length - 1 : Nat) : Int) - ((1 : Nat) : Int) = _
          exact (Int.ofNat_sub (Nat.le_sub_one_of_lt h1)).symm
        rw [e1] at hS
        by_cases hq : w.getD (w.length - 2) 0 = w.getD (w.length - 1) 0
        · rw [decide_eq_true hq, if_pos rfl] at hS
          have hdel := sliceDel_is w K (c := w.length - 2) (b := w.length - 1) (n := w.length) (Nat.sub_lt h0 Nat.one_pos) rfl (Nat.sub_le_sub_left (by decide) _) (by omega) 0 p
          refine ⟨true, some (F7 (w.take (w.length - 1)) (w.length - 2 : Nat) (w.length - 1 : Nat) 0 (w.length - 1 : Nat) (w.length - 1 : Nat) p), ?_, ?_⟩
          · refine orc_ret (ps := []) (b := bRUndouble) (lc := lUs (w.getD (w.length - 1) 0)) rfl rfl (((und_head w e).trans (und_yes w hG hT)).trans ?_)
            unfold bUnd3
            refine (exs_next (r := blk _) (s_if0 (t_not0 (t_c1 (ev_c1 rfl rfl hS))) rfl)).trans ?_
            exact (exs_next (r := blk [rT]) (s_expr (ev_c0 rfl hdel))).trans rfl
          · have : undouble w p = w.take (w.length - 1) := by unfold undouble; rw [if_pos ⟨hlt, hc, hq⟩]
            rw [this]; exact mid_take w (Nat.lt_asymm h0 |> fun _ => by omega) _ _
        · rw [decide_eq_false hq, if_neg (by decide)] at hS
          refine ⟨false, some (F7 w (w.length - 1 : Nat) (n_ w) 0 (w.length - 1 : Nat) (n_ w) p), ?_, ?_⟩
          · refine orc_ret (ps := []) (b := bRUndouble) (lc := lUs (w.getD (w.length - 1) 0)) rfl rfl (((und_head w e).trans (und_yes w hG hT)).trans ?_)
            unfold bUnd3
            exact exs_out (r := blk _) (s_if1 (t_not1 (t_c1 (ev_c1 rfl rfl hS))) rfl) (by simp)
          · have : undouble w p = w := by unfold undouble; rw [if_neg (fun h => hq h.2.2)]
            rw [this]; exact ⟨_, _, _, rfl⟩
    · have hG := inG_end w (K + 2) sUndouble (c := n_ w) (lb := p) (Int.ofNat_le.mpr (Nat.le_of_not_lt hlt)) (n_ w) b0 (n_ w) p
      refine ⟨false, _, und_no w e hG, ?_⟩
      have : undouble w p = w := by unfold undouble; rw [if_neg (fun h => hlt h.1)]
      rw [this]; exact ⟨_, _, _, rfl⟩
end
end DaWalk
open PySem PySem.W PyProof.Rows DaHead
set_option Elab.async false
set_option linter.unusedVariables false
set_option linter.constructorNameAsVariable false
set_option linter.unusedSimpArgs false
set_option maxRecDepth 100000
namespace DaWalk
theorem bStem_eq : bStem = .cons (.ifs (.not (.call0 .rMark)) (blk [rF]) .nil) (.cons (.asgF .limitBackward fC) (.cons (.asgF .cursor fL) (.cons (.asgL .v1 (.sub fL fC)) (.cons (.expr (.call0 .rMain)) (.cons (.asgF .cursor (.sub fL (.loc .v1))) (.cons (.asgL .v2 (.sub fL fC)) (.cons (.expr (.call0 .rPair)) (.cons (.asgF .cursor (.sub fL (.loc .v2)))
  (.cons (.asgL .v3 (.sub fL fC)) (.cons (.expr (.call0 .rOther)) (.cons (.asgF .cursor (.sub fL (.loc .v3))) (.cons (.asgL .v4 (.sub fL fC)) (.cons (.expr (.call0 .rUndouble)) (.cons (.asgF .cursor (.sub fL (.loc .v4))) (.cons (.asgF .ket fC)
  (blk [.ifs (.or (.cmp .LtE fC fLb) (.cmp .NotEq (.idx fCur (.sub fC (.int 1))) (.str [39]))) (blk [rF]) .nil, .subF .cursor (.int 1), .asgF .bra fC, .expr (.call0 .sliceDel), .asgF .cursor fLb, rT])))))))))))))))) := rfl
theorem pair_le (w : List Nat) (p : Nat) : (pair w p).length ≤ w.length := by unfold pair; split <;> (try simp) <;> omega
theorem step1_le (w : List Nat) (p : Nat) : (step1 w p).length ≤ w.length := by unfold step1; dsimp only; split <;> (try simp) <;> omega
theorem igst_le (w : List Nat) : (igst w).length ≤ w.length := by unfold igst; split <;> (try simp) <;> omega
theorem other_le (w : List Nat) (p : Nat) : (other w p).length ≤ w.length := by
  unfold other
  split
  · simp
  · split
    · refine Nat.le_trans (pair_le _ _) (by simp)
    · exact Nat.le_refl _
theorem undouble_le (w : List Nat) (p : Nat) : (undouble w p).length ≤ w.length := by unfold undouble; split <;> (try simp) <;> omega
section
variable {O : Orc} {σ σ' : St} {v u : MV}
theorem t_or0 {a b : ME} {r : Option (Bool × St)} (h : evT tb O a σ = some (false, σ')) (hb : evT tb O b σ' = r) : evT tb O (.or a b) σ = r := by
  simp only [xt1, xt2, xt3, xt4, xt5, xt6, xt8, xt12, xt13, xt14, xt15, xt23, xt27, xt28, xt29, xt30, xt31, xt32, xt33]; rw [h]; exact hb
theorem t_or1 {a b : ME} (h : evT tb O a σ = some (true, σ')) : evT tb O (.or a b) σ = some (true, σ') := by
  simp only [xt1, xt2, xt3, xt4, xt5, xt6, xt8, xt12, xt13, xt14, xt15, xt23, xt27, xt28, xt29, xt30, xt31, xt32, xt33]; rw [h]; rfl
theorem t_cmp {a b : ME} {op : CmpOp} {c : Bool} (h : ev tb O a σ = some (v, σ')) (hb : ev tb O b σ' = some (u, σ')) (hc : cmpM op v u = some c) : evT tb O (.cmp op a b) σ = some (c, σ') := by
  show ((ev tb O a σ).bind fun p => (ev tb O b p.2).bind fun q => (cmpM op p.1 q.1).map fun r => (r, q.2)) = _
  rw [h]
  show ((ev tb O b σ').bind fun q => (cmpM op v q.1).map fun r => (r, q.2)) = _
  rw [hb]
  show (cmpM op v u).map _ = _
  rw [hc]; rfl
theorem e_idx {a b : ME} (ha : ev tb O a σ = some (v, σ')) (hb : ev tb O b σ' = some (u, σ')) {r : MV} (hi : idxM (isLoc a) v u = some r) : ev tb O (.idx a b) σ = some (r, σ') := by
  show ((ev tb O a σ).bind fun p => (ev tb O b p.2).bind fun q => (idxM (isLoc a) p.1 q.1).map fun r => (r, q.2)) = _
  rw [ha]
  show ((ev tb O b σ').bind fun q => (idxM (isLoc a) v q.1).map fun r => (r, q.2)) = _
  rw [hb]
  show (idxM (isLoc a) v u).map _ = _
  rw [hi]; rfl
end
noncomputable abbrev l4 : FL := [(.self, .self), (.v1, .int 0), (.v2, .int 0), (.v3, .int 0), (.v4, .int 0)]
noncomputable def bStem2 : MS := blk [.ifs (.or (.cmp .LtE fC fLb) (.cmp .NotEq (.idx fCur (.sub fC (.int 1))) (.str [39]))) (blk [rF]) .nil, .subF .cursor (.int 1), .asgF .bra fC, .expr (.call0 .sliceDel), .asgF .cursor fLb, rT]
theorem idx_last {u : List Nat} {y : Nat} (hpos : 0 < u.length) (h : u[u.length - 1]? = some y) : idxM false (.str u) (.int (n_ u - 1)) = some (.str [y]) := by
  have e0 : (0 : Int) ≤ n_ u - 1 := by unfold n_; omega
  have e2 : (n_ u - 1).toNat = u.length - 1 := by unfold n_; omega
  unfold idxM
  simp only [asI, Option.bind_some]
  rw [if_pos e0, e2, h]; rfl
theorem last_t {O : Orc} {u : List Nat} {b k p : Int} {y : Nat} {c : Bool} (e0 : ¬ (n_ u ≤ 0)) (hi : idxM false (.str u) (.int (n_ u - 1)) = some (.str [y])) (hc : cmpM .NotEq (.str [y]) (.str [39]) = some c) :
    evT tb O (.or (.cmp .LtE fC fLb) (.cmp .NotEq (.idx fCur (.sub fC (.int 1))) (.str [39]))) ⟨l4, some (F7 u (n_ u) (n_ u) 0 b k p)⟩ = some (c, ⟨l4, some (F7 u (n_ u) (n_ u) 0 b k p)⟩) :=
  t_or0 (t_no e0 rfl) (t_cmp (e_idx rfl rfl hi) rfl hc)
section
variable (w : List Nat) (K : Nat) {p : Nat} {b0 k0 : Int}
theorem f_reset {n : Nm} {loc : FL} {c : Int} {r : MS} {O : Orc} (hs : getN .self loc = some .self) (hn : getN n loc = some (.int 0)) : exs tb O (.cons (.asgF .cursor (.sub fL (.loc n))) r) ⟨loc, some (F7 w c (n_ w) 0 b0 k0 p)⟩ = exs tb O r ⟨loc, some (F7 w (n_ w) (n_ w) 0 b0 k0 p)⟩ := by
  refine exs_next ?_
  simp [xs1, xs2, xs3, xs4, xs5, xs6, xs7, xs8, xs9, xs10, xs11, xs12, xs13, xs14, xs15, xs16, xs17, xv1, xv2, xv3, xv4, xv5, xv6, xv7, xv8, xv9, xv10, xv11, xv12, xv13, xv14, xv15, xv16, xv17, xv18, xv19, xv20, xv21, xv22, xv23, xv24, xv25, xv26, xv27, getF, selfOk, hs, hn, getN, F7, fL, subM, setF, putN]
theorem f_keep {n : Nm} {loc : FL} {r : MS} {O : Orc} (hs : getN .self loc = some .self) : exs tb O (.cons (.asgL n (.sub fL fC)) r) ⟨loc, some (F7 w (n_ w) (n_ w) 0 b0 k0 p)⟩ = exs tb O r ⟨putN n (.int 0) loc, some (F7 w (n_ w) (n_ w) 0 b0 k0 p)⟩ := by
  refine exs_next ?_
  simp [xs1, xs2, xs3, xs4, xs5, xs6, xs7, xs8, xs9, xs10, xs11, xs12, xs13, xs14, xs15, xs16, xs17, xv1, xv2, xv3, xv4, xv5, xv6, xv7, xv8, xv9, xv10, xv11, xv12, xv13, xv14, xv15, xv16, xv17, xv18, xv19, xv20, xv21, xv22, xv23, xv24, xv25, xv26, xv27, getF, selfOk, hs, getN, F7, fL, fC, subM, setL]
theorem f_call {m : Nm} {loc : FL} {c : Int} {r : MS} {O : Orc} {v : MV} {fl' : FL} (hs : getN .self loc = some .self) (hm : isMeth m = true) (h : O m [] (some (F7 w c (n_ w) 0 b0 k0 p)) = some (v, some fl')) :
    exs tb O (.cons (.expr (.call0 m)) r) ⟨loc, some (F7 w c (n_ w) 0 b0 k0 p)⟩ = exs tb O r ⟨loc, some fl'⟩ := by
  refine exs_next ?_
  have hg : getN m (F7 w c (n_ w) 0 b0 k0 p) = none := by cases m <;> first | rfl | exact Bool.noConfusion hm
  simp only [xs1, xs2, xs3, xs4, xs5, xs6, xs7, xs8, xs9, xs10, xs11, xs12, xs13, xs14, xs15, xs16, xs17, xv1, xv2, xv3, xv4, xv5, xv6, xv7, xv8, xv9, xv10, xv11, xv12, xv13, xv14, xv15, xv16, xv17, xv18, xv19, xv20, xv21, xv22, xv23, xv24, xv25, xv26, xv27, methOk, selfOk, hs, hg, beq_self_eq_true, Option.isNone_none, Bool.and_self, if_true, callM, h, Option.map_some]
theorem apo_eq : apo w = if w ≠ [] ∧ w.getD (w.length - 1) 0 = 39 then w.take (w.length - 1) else w := by
  unfold apo
  by_cases h : w = []
  · subst h; rfl
  · rw [suffix_one h]
    simp [h]
theorem stem_is (hz : w.length ≤ 60) {fl0 : FL} (hg : getN .rMark fl0 = none) (hM : orc tb (K + 6) .rMark [] (some fl0) = some (.bool (decide (3 ≤ w.length)), some (F7 w 0 (nL w) 0 0 (nL w) (reg w : Nat)))) :
    ∃ r fl', orc tb (K + 7) .stem_ [] (some fl0) = some (.bool r, fl') ∧ ∃ c l b k : Int, fl' = some (F7 (stemL w) c l 0 b k (reg w : Nat)) := by
  by_cases h3 : 3 ≤ w.length
  · rw [decide_eq_true h3] at hM
    have hreg : reg w = Nat.max 3 (mark w) := by unfold reg; rw [if_pos h3]
    have hr3 : 3 ≤ reg w := by rw [hreg]; exact Nat.le_max_left _ _
    have hmark : mark w ≤ w.length := by
      unfold mark
      split
      · omega
      · split
        · split <;> omega
        · exact Nat.le_refl _
    have hrn : reg w ≤ w.length := by rw [hreg]; exact Nat.max_le.mpr ⟨h3, hmark⟩
    generalize hp : reg w = p at *
    obtain ⟨r1, f1, c1, ⟨d1, b1, k1, m1⟩⟩ := rMain_is w (K + 2) (p := p) (b0 := 0) (k0 := nL w) hz hrn (by omega)
    subst m1
    have z1 := step1_le w p
    obtain ⟨r2, f2, c2, ⟨d2, b2, k2, m2⟩⟩ := rPair_is (step1 w p) (K + 2) (p := p) (b0 := b1) (k0 := k1) (by omega)
    subst m2
    have z2 := pair_le (step1 w p) p
    obtain ⟨r3, f3, c3, ⟨d3, b3, k3, m3⟩⟩ := rOther_is (pair (step1 w p) p) (K + 1) (p := p) (b0 := b2) (k0 := k2) (by omega)
    subst m3
    have z3 := Nat.le_trans (other_le (igst (pair (step1 w p) p)) p) (igst_le (pair (step1 w p) p))
    obtain ⟨r4, f4, c4, ⟨d4, b4, k4, m4⟩⟩ := rUndouble_is (other (igst (pair (step1 w p) p)) p) (K + 2) (p := p) (b0 := b3) (k0 := k3) (by omega) (by omega)
    subst m4
    have z4 := undouble_le (other (igst (pair (step1 w p) p)) p) p
    generalize hu : undouble (other (igst (pair (step1 w p) p)) p) p = u at *
    have hst : stemL w = apo u := by unfold stemL; rw [if_neg (by omega), hp, hu]
    have hhead : exs tb (orc tb (K + 6)) bStem ⟨[(.self, .self)], some fl0⟩ = exs tb (orc tb (K + 6)) (blk [.ifs (.or (.cmp .LtE fC fLb) (.cmp .NotEq (.idx fCur (.sub fC (.int 1))) (.str [39]))) (blk [rF]) .nil, .subF .cursor (.int 1), .asgF .bra fC, .expr (.call0 .sliceDel), .asgF .cursor fLb, rT])
        ⟨[(.self, .self), (.v1, .int 0), (.v2, .int 0), (.v3, .int 0), (.v4, .int 0)], some (F7 u (n_ u) (n_ u) 0 b4 (n_ u) p)⟩ := by
      rw [bStem_eq]
      refine (exs_next (τ := ⟨[(.self, .self)], some (F7 w 0 (n_ w) 0 0 (n_ w) p)⟩) ?_).trans ?_
      · exact s_if0 (t_not0 (t_c0 (ev_c0 (by simp [methOk, selfOk, getN, hg]) hM))) rfl
      refine (exs_next (τ := ⟨[(.self, .self)], some (F7 w 0 (n_ w) 0 0 (n_ w) p)⟩) (by first | rfl | simp [xs1, xs2, xs3, xs4, xs5, xs6, xs7, xs8, xs9, xs10, xs11, xs12, xs13, xs14, xs15, xs16, xs17, xv1, xv2, xv3, xv4, xv5, xv6, xv7, xv8, xv9, xv10, xv11, xv12, xv13, xv14, xv15, xv16, xv17, xv18, xv19, xv20, xv21, xv22, xv23, xv24, xv25, xv26, xv27, getF, selfOk, getN, setF, putN, F7, fC])).trans ?_
      refine (exs_next (τ := ⟨[(.self, .self)], some (F7 w (n_ w) (n_ w) 0 0 (n_ w) p)⟩) (by first | rfl | simp [xs1, xs2, xs3, xs4, xs5, xs6, xs7, xs8, xs9, xs10, xs11, xs12, xs13, xs14, xs15, xs16, xs17, xv1, xv2, xv3, xv4, xv5, xv6, xv7, xv8, xv9, xv10, xv11, xv12, xv13, xv14, xv15, xv16, xv17, xv18, xv19, xv20, xv21, xv22, xv23, xv24, xv25, xv26, xv27, getF, selfOk, getN, setF, putN, F7, fL])).trans ?_
      rw [f_keep w rfl, f_call w rfl rfl c1, f_reset (step1 w p) rfl rfl, f_keep (step1 w p) rfl, f_call (step1 w p) rfl rfl c2, f_reset _ rfl rfl, f_keep _ rfl, f_call _ rfl rfl c3, f_reset _ rfl rfl, f_keep _ rfl, f_call _ rfl rfl c4, f_reset _ rfl rfl]
      exact exs_next (by first | rfl | simp [xs1, xs2, xs3, xs4, xs5, xs6, xs7, xs8, xs9, xs10, xs11, xs12, xs13, xs14, xs15, xs16, xs17, xv1, xv2, xv3, xv4, xv5, xv6, xv7, xv8, xv9, xv10, xv11, xv12, xv13, xv14, xv15, xv16, xv17, xv18, xv19, xv20, xv21, xv22, xv23, xv24, xv25, xv26, xv27, getF, selfOk, getN, setF, putN, F7, fC])
    rw [hst, apo_eq]
    by_cases hne : u = []
    · rw [if_neg (by simp [hne])]
      refine ⟨false, some (F7 u (n_ u) (n_ u) 0 b4 (n_ u) p), ?_, ⟨_, _, _, _, rfl⟩⟩
      refine orc_ret (ps := []) (b := bStem) (lc := [(.self, .self), (.v1, .int 0), (.v2, .int 0), (.v3, .int 0), (.v4, .int 0)]) rfl rfl (hhead.trans ?_)
      have e : n_ u ≤ 0 := by unfold n_; rw [hne]; exact Int.le_refl 0
      exact exs_out (r := blk _) (s_if1 (t_or1 (t_yes e rfl)) rfl) (by simp)
    · have hpos : 0 < u.length := List.length_pos_iff.mpr hne
      have e0 : ¬ (n_ u ≤ 0) := fun h => absurd (Int.ofNat_le.mp h) (Nat.not_le_of_lt hpos)
      have hi : idxM false (.str u) (.int (n_ u - 1)) = some (.str [u.getD (u.length - 1) 0]) := by
        exact idx_last hpos (by rw [List.getD_eq_getElem?_getD, List.getElem?_eq_getElem (Nat.sub_lt hpos Nat.one_pos)]; rfl)
      by_cases hq : u.getD (u.length - 1) 0 = 39
      · rw [if_pos ⟨hne, hq⟩]
        rw [hq] at hi
        have hdel := sliceDel_is u (K + 3) (c := u.length - 1) (b := u.length - 1) (n := u.length) (Nat.sub_lt hpos Nat.one_pos) rfl (Nat.le_refl _) (Nat.le_trans z4 (by omega)) 0 p
        have e3 : ((u.length - 1 : Nat) : Int) = n_ u - 1 := Int.ofNat_sub hpos
        refine ⟨true, some (F7 (u.take (u.length - 1)) 0 (u.length - 1 : Nat) 0 (u.length - 1 : Nat) (u.length - 1 : Nat) p), ?_, ⟨_, _, _, _, rfl⟩⟩
        refine orc_ret (ps := []) (b := bStem) (lc := l4) rfl rfl (hhead.trans ?_)
        rw [e3] at hdel ⊢
        refine (exs_next (r := blk _) (s_if0 (last_t e0 hi (show cmpM .NotEq (.str [39]) (.str [39]) = some false from rfl)) rfl)).trans ?_
        refine (exs_next (r := blk _) (τ := ⟨l4, some (F7 u (n_ u - 1) (n_ u) 0 b4 (n_ u) p)⟩) rfl).trans ?_
        refine (exs_next (r := blk _) (τ := ⟨l4, some (F7 u (n_ u - 1) (n_ u) 0 (n_ u - 1) (n_ u) p)⟩) rfl).trans ?_
        exact (exs_next (r := blk _) (s_expr (ev_c0 rfl hdel))).trans rfl
      · rw [if_neg (fun h => hq h.2)]
        refine ⟨false, some (F7 u (n_ u) (n_ u) 0 b4 (n_ u) p), ?_, ⟨_, _, _, _, rfl⟩⟩
        refine orc_ret (ps := []) (b := bStem) (lc := l4) rfl rfl (hhead.trans ?_)
        generalize u.getD (u.length - 1) 0 = y at hi hq
        exact exs_out (r := blk _) (s_if1 (last_t e0 hi (show cmpM .NotEq (.str [y]) (.str [39]) = some true from by simp [cmpM, cmpI, cmpS, hq])) rfl) (by simp)
  · rw [decide_eq_false h3] at hM
    have hst : stemL w = w := by unfold stemL; rw [if_pos (by omega)]
    refine ⟨false, some (F7 w 0 (nL w) 0 0 (nL w) (reg w : Nat)), ?_, ⟨_, _, _, _, by rw [hst]⟩⟩
    refine orc_ret (ps := []) (b := bStem) (lc := [(.self, .self)]) rfl rfl ?_
    rw [bStem_eq]
    exact exs_out (s_if1 (t_not1 (t_c0 (ev_c0 (by simp [methOk, selfOk, getN, hg]) hM))) rfl) (by simp)
end
/-- the stemmer's fields -/
noncomputable def Flds (fl : FL) : Prop := (∃ v c l lb b k, fl = F6 v c l lb b k) ∨ ∃ v c l lb b k p, fl = F7 v c l lb b k p
theorem stemWord_is (w : List Nat) (K : Nat) (hz : w.length ≤ 60) {fl : FL} (h : Flds fl) : ∃ fl', Flds fl' ∧ orc tb (K + 8) .stemWord [.str w] (some fl) = some (.str (stemL w), some fl') := by
  have go : ∀ {f1 : FL}, getN .setCurrent fl = none → getN .stem_ f1 = none → getN .rMark f1 = none → orc tb (K + 7) .setCurrent [.str w] (some fl) = some (.none, some f1) → orc tb (K + 6) .rMark [] (some f1) = some (.bool (decide (3 ≤ w.length)), some (F7 w 0 (nL w) 0 0 (nL w) (reg w : Nat))) →
      ∃ fl', Flds fl' ∧ orc tb (K + 8) .stemWord [.str w] (some fl) = some (.str (stemL w), some fl') := by
    intro f1 g0 g1 g2 h1 h2
    obtain ⟨r, f2, h3, c, l, b, k, rfl⟩ := stem_is w K hz g2 h2
    have h4 := getCurrent_is (stemL w) (K + 6) 0 b c l k (reg w : Nat)
    refine ⟨F7 (stemL w) c l 0 b k (reg w : Nat), .inr ⟨_, _, _, _, _, _, _, rfl⟩, orc_ret (ps := [.word]) (b := bStemWord) (lc := [(.self, .self), (.word, .str w)]) rfl rfl ?_⟩
    have g3 : getN .getCurrent (F7 (stemL w) c l 0 b k (reg w : Nat)) = none := rfl
    simp [bStemWord, blk, exs, xs1, xs2, xs3, xs4, xs5, xs6, xs7, xs8, xs9, xs10, xs11, xs12, xs13, xs14, xs15, xs16, xs17, xv1, xv2, xv3, xv4, xv5, xv6, xv7, xv8, xv9, xv10, xv11, xv12, xv13, xv14, xv15, xv16, xv17, xv18, xv19, xv20, xv21, xv22, xv23, xv24, xv25, xv26, xv27, methOk, selfOk, getN, g0, g1, g3, callM, h1, h3, h4]
  rcases h with ⟨v, c, l, lb, b, k, rfl⟩ | ⟨v, c, l, lb, b, k, p, rfl⟩
  · exact go rfl rfl rfl (setCurrent_6 (K + 6) w v c l lb b k) (rMark_6 w (K + 4) (by omega))
  · exact go rfl rfl rfl (setCurrent_7 (K + 6) w v c l lb b k p) (rMark_7 w (K + 4) (by omega) p)
end DaWalk
open PySem PySem.W PyProof.Rows DaHead
set_option Elab.async false
set_option linter.unusedVariables false
set_option linter.constructorNameAsVariable false
set_option linter.unusedSimpArgs false
set_option maxRecDepth 100000
namespace DaWalk
noncomputable def bEndTurn : MS := blk [.ifs (.and (.endsw (.loc .text) (.loc .end_)) (.cmp .Gt (.len (.loc .end_)) (.len (.loc .found)))) (blk [.asgL .found (.loc .end_)]) .nil]
section
variable (K : Nat) (O : Orc) (fl : Fl)
theorem end_turn (text f e : List Nat) (ends : List (List Nat)) : exs tb O bEndTurn ⟨[(.text, .str text), (.ends, .lstS ends), (.found, .str f), (.end_, .str e)], fl⟩ = some (.next, ⟨[(.text, .str text), (.ends, .lstS ends), (.found, .str (endStep text f e)), (.end_, .str e)], fl⟩) := by
  unfold endStep
  cases h1 : e.isSuffixOf text with
  | false => simp [bEndTurn, blk, exs, xs1, xs2, xs3, xs4, xs5, xs6, xs7, xs8, xs9, xs10, xs11, xs12, xs13, xs14, xs15, xs16, xs17, xv1, xv2, xv3, xv4, xv5, xv6, xv7, xv8, xv9, xv10, xv11, xv12, xv13, xv14, xv15, xv16, xv17, xv18, xv19, xv20, xv21, xv22, xv23, xv24, xv25, xv26, xv27, xt1, xt2, xt3, xt4, xt5, xt6, xt8, xt12, xt13, xt14, xt15, xt23, xt27, xt28, xt29, xt30, xt31, xt32, xt33, getN, setL, putN, endsM, asBool, h1]
  | true =>
    by_cases h2 : f.length < e.length
    · have e2 : (f.length : Int) < e.length := by omega
      simp [bEndTurn, blk, exs, xs1, xs2, xs3, xs4, xs5, xs6, xs7, xs8, xs9, xs10, xs11, xs12, xs13, xs14, xs15, xs16, xs17, xv1, xv2, xv3, xv4, xv5, xv6, xv7, xv8, xv9, xv10, xv11, xv12, xv13, xv14, xv15, xv16, xv17, xv18, xv19, xv20, xv21, xv22, xv23, xv24, xv25, xv26, xv27, xt1, xt2, xt3, xt4, xt5, xt6, xt8, xt12, xt13, xt14, xt15, xt23, xt27, xt28, xt29, xt30, xt31, xt32, xt33, getN, setL, putN, endsM, asBool, lenM, cmpM, h1, h2]
    · have e2 : ¬ (f.length : Int) < e.length := by omega
      simp [bEndTurn, blk, exs, xs1, xs2, xs3, xs4, xs5, xs6, xs7, xs8, xs9, xs10, xs11, xs12, xs13, xs14, xs15, xs16, xs17, xv1, xv2, xv3, xv4, xv5, xv6, xv7, xv8, xv9, xv10, xv11, xv12, xv13, xv14, xv15, xv16, xv17, xv18, xv19, xv20, xv21, xv22, xv23, xv24, xv25, xv26, xv27, xt1, xt2, xt3, xt4, xt5, xt6, xt8, xt12, xt13, xt14, xt15, xt23, xt27, xt28, xt29, xt30, xt31, xt32, xt33, getN, setL, putN, endsM, asBool, lenM, cmpM, h1, h2]
theorem end_loop (text : List Nat) (ends : List (List Nat)) : ∀ (l : List (List Nat)) (f e0 : List Nat), ∃ e', loopV .end_ (exs tb O bEndTurn) (l.map .str) ⟨[(.text, .str text), (.ends, .lstS ends), (.found, .str f), (.end_, .str e0)], fl⟩ =
    some (.next, ⟨[(.text, .str text), (.ends, .lstS ends), (.found, .str (l.foldl (endStep text) f)), (.end_, .str e')], fl⟩)
  | [], f, e0 => ⟨e0, rfl⟩
  | e :: r, f, e0 => by
    obtain ⟨e', ih⟩ := end_loop text ends r (endStep text f e) e
    refine ⟨e', ?_⟩
    simp only [List.map_cons, loopV, List.foldl_cons]
    rw [show setL .end_ (.str e) ⟨[(.text, .str text), (.ends, .lstS ends), (.found, .str f), (.end_, .str e0)], fl⟩ = ⟨[(.text, .str text), (.ends, .lstS ends), (.found, .str f), (.end_, .str e)], fl⟩ from rfl, end_turn]
    exact ih
theorem lEnd_is (text e : List Nat) (r : List (List Nat)) : orc tb (K + 1) .lEnd [.str text, .lstS (e :: r)] fl = some (.str (endOf text (e :: r)), fl) := by
  obtain ⟨e', hl⟩ := end_loop (orc tb K) fl text (e :: r) (e :: r) [] []
  refine orcF_ret (ps := [.text, .ends]) (b := bLEnd) (lc := [(.text, .str text), (.ends, .lstS (e :: r)), (.found, .str (endOf text (e :: r))), (.end_, .str e')]) rfl rfl ?_
  have hb : bLEnd = .cons (.asgL .found (.str [])) (.cons (.forStrs .end_ (.loc .ends) bEndTurn) (blk [.ret (.loc .found)])) := rfl
  rw [hb]
  refine (exs_next (τ := ⟨[(.text, .str text), (.ends, .lstS (e :: r)), (.found, .str [])], fl⟩) rfl).trans ?_
  refine (exs_next (τ := ⟨[(.text, .str text), (.ends, .lstS (e :: r)), (.found, .str (endOf text (e :: r))), (.end_, .str e')], fl⟩) ?_).trans rfl
  exact hl
theorem lMain_cons : ∃ e r, lMain = e :: r := ⟨_, _, rfl⟩
theorem lPair_is (w : List Nat) (p : Nat) : orc tb (K + 2) .lPair [.str w, .int p] fl = some (.str (pair w p), fl) := by
  have h1 : orc tb (K + 1) .lEnd [.str (w.drop p), .lstS lPairs] fl = some (.str (endOf (w.drop p) lPairs), fl) := lEnd_is K fl (w.drop p) _ _
  unfold pair
  by_cases h : endOf (w.drop p) lPairs = []
  · rw [if_pos h]
    refine orcF_ret (ps := [.word, .first]) (b := bLPair) (lc := [(.word, .str w), (.first, .int p)]) rfl rfl ?_
    rw [h] at h1
    simp [bLPair, blk, exs, xs1, xs2, xs3, xs4, xs5, xs6, xs7, xs8, xs9, xs10, xs11, xs12, xs13, xs14, xs15, xs16, xs17, xv1, xv2, xv3, xv4, xv5, xv6, xv7, xv8, xv9, xv10, xv11, xv12, xv13, xv14, xv15, xv16, xv17, xv18, xv19, xv20, xv21, xv22, xv23, xv24, xv25, xv26, xv27, xt1, xt2, xt3, xt4, xt5, xt6, xt8, xt12, xt13, xt14, xt15, xt23, xt27, xt28, xt29, xt30, xt31, xt32, xt33, getN, slcFromM, callM, cmpM, show tb.glb .lawPairs = some (.lstS lPairs) from rfl, h1]
  · rw [if_neg h]
    have hpos : 1 ≤ w.length := by
      have hs : endOf (w.drop p) lPairs <:+ w.drop p := by
        rcases fold_mem (w.drop p) lPairs [] with q | q
        · exact absurd q h
        · exact q.2
      have h3 := hs.length_le
      have h4 := List.length_pos_iff.mpr h
      simp at h3; omega
    have e1 : (1 : Int) ≤ w.length := by omega
    have e2 : (w.length : Int) - 1 ≤ w.length := by omega
    have e3 : ((w.length : Int) - 1).toNat = w.length - 1 := by omega
    refine orcF_ret (ps := [.word, .first]) (b := bLPair) (lc := [(.word, .str w), (.first, .int p)]) rfl rfl ?_
    simp [bLPair, blk, exs, xs1, xs2, xs3, xs4, xs5, xs6, xs7, xs8, xs9, xs10, xs11, xs12, xs13, xs14, xs15, xs16, xs17, xv1, xv2, xv3, xv4, xv5, xv6, xv7, xv8, xv9, xv10, xv11, xv12, xv13, xv14, xv15, xv16, xv17, xv18, xv19, xv20, xv21, xv22, xv23, xv24, xv25, xv26, xv27, xt1, xt2, xt3, xt4, xt5, xt6, xt8, xt12, xt13, xt14, xt15, xt23, xt27, xt28, xt29, xt30, xt31, xt32, xt33, getN, slcFromM, slcToM, subM, lenM, callM, cmpM, show tb.glb .lawPairs = some (.lstS lPairs) from rfl, h1, h, e1, e2, e3]
/-! the region -/
noncomputable def bReg1 : MS := blk [.ifs (.cmp .Eq (.idx (.loc .word) (.loc .place)) (.str [39])) (blk [.ret (.max (.int 3) (.add (.loc .place) (.int 1)))]) .nil]
noncomputable def bReg2 : MS := blk [.ifs (.inFn (.idx (.loc .word) (.loc .place)) .lVowels) (blk [.asgL .met (.bool true)]) (blk [.ifs (.loc .met) (blk [.ret (.max (.int 3) (.add (.loc .place) (.int 1)))]) .nil])]
theorem vow (x : Nat) : ([97, 101, 105, 111, 117, 121, 230, 248, 229] : List Nat).contains x = isV x := by
  unfold isV
  have hp : ([97, 101, 105, 111, 117, 121, 230, 248, 229] : List Nat).Perm sV := by decide
  rw [Bool.eq_iff_iff, List.contains_iff_mem, List.contains_iff_mem]
  exact hp.mem_iff
theorem max3 (i : Nat) : (if ((i : Int) + 1) > 3 then ((i : Int) + 1) else 3) = ((Nat.max 3 (i + 1) : Nat) : Int) := by
  by_cases h : 3 ≤ i + 1
  · rw [show Nat.max 3 (i + 1) = i + 1 from Nat.max_eq_right h]; split <;> omega
  · rw [show Nat.max 3 (i + 1) = 3 from Nat.max_eq_left (by omega)]; split <;> omega
theorem reg1_loop (w : List Nat) : ∀ (n i : Nat) (j : Int), i + n = w.length → ∃ j', loopV .place (exs tb O bReg1) (upV i n) ⟨[(.word, .str w), (.place, .int j)], fl⟩ =
    some (if firstAt isApo w i < w.length then (.ret (.int (Nat.max 3 (firstAt isApo w i + 1) : Nat)), ⟨[(.word, .str w), (.place, .int j')], fl⟩) else (.next, ⟨[(.word, .str w), (.place, .int j')], fl⟩))
  | 0, i, j, h => ⟨j, by rw [firstAt_end _ w (by omega), if_neg (by omega)]; rfl⟩
  | n + 1, i, j, h => by
    have hc : i < w.length := by omega
    have hg : w[i]? = some w[i] := List.getElem?_eq_getElem hc
    simp only [upV, loopV]
    rw [show setL .place (.int i) ⟨[(.word, .str w), (.place, .int j)], fl⟩ = ⟨[(.word, .str w), (.place, .int i)], fl⟩ from rfl]
    cases hp : isApo w[i] with
    | true =>
      rw [firstAt_hit _ w hc hp]
      have hp' : w[i] = 39 := by simpa [isApo] using hp
      refine ⟨i, ?_⟩
      have : exs tb O bReg1 ⟨[(.word, .str w), (.place, .int i)], fl⟩ = some (.ret (.int (Nat.max 3 (i + 1) : Nat)), ⟨[(.word, .str w), (.place, .int i)], fl⟩) := by
        rw [← max3]
        simp [bReg1, blk, exs, xs1, xs2, xs3, xs4, xs5, xs6, xs7, xs8, xs9, xs10, xs11, xs12, xs13, xs14, xs15, xs16, xs17, xv1, xv2, xv3, xv4, xv5, xv6, xv7, xv8, xv9, xv10, xv11, xv12, xv13, xv14, xv15, xv16, xv17, xv18, xv19, xv20, xv21, xv22, xv23, xv24, xv25, xv26, xv27, xt1, xt2, xt3, xt4, xt5, xt6, xt8, xt12, xt13, xt14, xt15, xt23, xt27, xt28, xt29, xt30, xt31, xt32, xt33, getN, idxM, isLoc, cmpM, maxM, addM, hg, hp']
      rw [this, if_pos hc]; rfl
    | false =>
      have hp' : ¬ w[i] = 39 := by simpa [isApo] using hp
      have : exs tb O bReg1 ⟨[(.word, .str w), (.place, .int i)], fl⟩ = some (.next, ⟨[(.word, .str w), (.place, .int i)], fl⟩) := by
        simp [bReg1, blk, exs, xs1, xs2, xs3, xs4, xs5, xs6, xs7, xs8, xs9, xs10, xs11, xs12, xs13, xs14, xs15, xs16, xs17, xv1, xv2, xv3, xv4, xv5, xv6, xv7, xv8, xv9, xv10, xv11, xv12, xv13, xv14, xv15, xv16, xv17, xv18, xv19, xv20, xv21, xv22, xv23, xv24, xv25, xv26, xv27, xt1, xt2, xt3, xt4, xt5, xt6, xt8, xt12, xt13, xt14, xt15, xt23, xt27, xt28, xt29, xt30, xt31, xt32, xt33, getN, idxM, isLoc, cmpM, hg, hp']
      rw [this, firstAt_step _ w hc hp]
      exact reg1_loop w n (i + 1) i (by omega)
noncomputable def regB (w : List Nat) (i : Nat) (met : Bool) : Nat := if met then firstAt notV w i else if firstAt isV w i < w.length then firstAt notV w (firstAt isV w i + 1) else w.length
theorem reg2_loop (w : List Nat) : ∀ (n i : Nat) (met : Bool) (j : Int), i + n = w.length → ∃ j' met', loopV .place (exs tb O bReg2) (upV i n) ⟨[(.word, .str w), (.place, .int j), (.met, .bool met)], fl⟩ =
    some (if regB w i met < w.length then (.ret (.int (Nat.max 3 (regB w i met + 1) : Nat)), ⟨[(.word, .str w), (.place, .int j'), (.met, .bool met')], fl⟩) else (.next, ⟨[(.word, .str w), (.place, .int j'), (.met, .bool met')], fl⟩))
  | 0, i, met, j, h => ⟨j, met, by
      have : ¬ regB w i met < w.length := by
        unfold regB
        rw [firstAt_end notV w (by omega), firstAt_end isV w (by omega)]
        cases met
        · simp only [Bool.false_eq_true, if_false]
          rw [if_neg (by omega)]
          omega
        · simp only [if_true]; omega
      rw [if_neg this]; rfl⟩
  | n + 1, i, met, j, h => by
    have hc : i < w.length := by omega
    have hg : w[i]? = some w[i] := List.getElem?_eq_getElem hc
    simp only [upV, loopV]
    rw [show setL .place (.int i) ⟨[(.word, .str w), (.place, .int j), (.met, .bool met)], fl⟩ = ⟨[(.word, .str w), (.place, .int i), (.met, .bool met)], fl⟩ from rfl]
    have hv := vow w[i]
    cases hp : isV w[i] with
    | true =>
      rw [hp] at hv
      have hn : notV w[i] = false := by unfold notV; unfold isV at hp; rw [hp]; rfl
      have : exs tb O bReg2 ⟨[(.word, .str w), (.place, .int i), (.met, .bool met)], fl⟩ = some (.next, ⟨[(.word, .str w), (.place, .int i), (.met, .bool true)], fl⟩) := by
        simp only [List.contains_iff_mem] at hv
        simp [bReg2, blk, exs, xs1, xs2, xs3, xs4, xs5, xs6, xs7, xs8, xs9, xs10, xs11, xs12, xs13, xs14, xs15, xs16, xs17, xv1, xv2, xv3, xv4, xv5, xv6, xv7, xv8, xv9, xv10, xv11, xv12, xv13, xv14, xv15, xv16, xv17, xv18, xv19, xv20, xv21, xv22, xv23, xv24, xv25, xv26, xv27, xt1, xt2, xt3, xt4, xt5, xt6, xt8, xt12, xt13, xt14, xt15, xt23, xt27, xt28, xt29, xt30, xt31, xt32, xt33, getN, idxM, isLoc, inFnM, lstV_v, lstV_b, lstV_d, setL, putN, hg] at hv ⊢
        simp [hv]
      rw [this]
      obtain ⟨j', met', ih⟩ := reg2_loop w n (i + 1) true i (by omega)
      refine ⟨j', met', ?_⟩
      have e : regB w i met = regB w (i + 1) true := by
        unfold regB
        cases met
        · simp only [Bool.false_eq_true, if_false, if_true]
          rw [firstAt_hit _ w hc hp, if_pos hc]
        · simp only [if_true]
          rw [firstAt_step _ w hc hn]
      rw [e]
      exact ih
    | false =>
      rw [hp] at hv
      have hn : notV w[i] = true := by unfold notV; unfold isV at hp; rw [hp]; rfl
      cases met with
      | true =>
        have e : regB w i true = i := by unfold regB; simp only [if_true]; rw [firstAt_hit _ w hc hn]
        rw [e]
        refine ⟨i, true, ?_⟩
        have : exs tb O bReg2 ⟨[(.word, .str w), (.place, .int i), (.met, .bool true)], fl⟩ = some (.ret (.int (Nat.max 3 (i + 1) : Nat)), ⟨[(.word, .str w), (.place, .int i), (.met, .bool true)], fl⟩) := by
          rw [← max3]
          simp [bReg2, blk, exs, xs1, xs2, xs3, xs4, xs5, xs6, xs7, xs8, xs9, xs10, xs11, xs12, xs13, xs14, xs15, xs16, xs17, xv1, xv2, xv3, xv4, xv5, xv6, xv7, xv8, xv9, xv10, xv11, xv12, xv13, xv14, xv15, xv16, xv17, xv18, xv19, xv20, xv21, xv22, xv23, xv24, xv25, xv26, xv27, xt1, xt2, xt3, xt4, xt5, xt6, xt8, xt12, xt13, xt14, xt15, xt23, xt27, xt28, xt29, xt30, xt31, xt32, xt33, getN, idxM, isLoc, inFnM, lstV_v, lstV_b, lstV_d, setL, putN, asBool, maxM, addM, hg] at hv ⊢
          simp [hv]
        rw [this, if_pos hc]; rfl
      | false =>
        have : exs tb O bReg2 ⟨[(.word, .str w), (.place, .int i), (.met, .bool false)], fl⟩ = some (.next, ⟨[(.word, .str w), (.place, .int i), (.met, .bool false)], fl⟩) := by
          simp [bReg2, blk, exs, xs1, xs2, xs3, xs4, xs5, xs6, xs7, xs8, xs9, xs10, xs11, xs12, xs13, xs14, xs15, xs16, xs17, xv1, xv2, xv3, xv4, xv5, xv6, xv7, xv8, xv9, xv10, xv11, xv12, xv13, xv14, xv15, xv16, xv17, xv18, xv19, xv20, xv21, xv22, xv23, xv24, xv25, xv26, xv27, xt1, xt2, xt3, xt4, xt5, xt6, xt8, xt12, xt13, xt14, xt15, xt23, xt27, xt28, xt29, xt30, xt31, xt32, xt33, getN, idxM, isLoc, inFnM, lstV_v, lstV_b, lstV_d, setL, putN, asBool, hg] at hv ⊢
          simp [hv]
        rw [this]
        obtain ⟨j', met', ih⟩ := reg2_loop w n (i + 1) false i (by omega)
        refine ⟨j', met', ?_⟩
        have e : regB w i false = regB w (i + 1) false := by
          unfold regB
          simp only [Bool.false_eq_true, if_false]
          rw [firstAt_step _ w hc hp]
        rw [e]
        exact ih
end
end DaWalk
open PySem PySem.W PyProof.Rows DaHead
set_option Elab.async false
set_option linter.unusedVariables false
set_option linter.constructorNameAsVariable false
set_option linter.unusedSimpArgs false
set_option maxRecDepth 100000
namespace DaWalk
section
variable (w : List Nat) (K : Nat) (fl : Fl)
theorem bLRegion_eq : bLRegion = .cons (.forUp .place (.len (.loc .word)) bReg1) (.cons (.asgL .met (.bool false)) (.cons (.forUp .place (.len (.loc .word)) bReg2) (blk [.ret (.len (.loc .word))]))) := rfl
theorem lRegion_is (h3 : 3 ≤ w.length) (hz : w.length ≤ 60) : orc tb (K + 1) .lRegion [.str w] fl = some (.int (reg w : Nat), fl) := by
  have hreg : reg w = Nat.max 3 (mark w) := by unfold reg; rw [if_pos h3]
  -- the first turn binds place
  have hup : ∀ (b : MS) (loc : FL), loopV .place (exs tb (orc tb K) b) (upV 0 w.length) ⟨(.word, .str w) :: loc, fl⟩ = loopV .place (exs tb (orc tb K) b) (upV 0 w.length) (setL .place (.int 0) ⟨(.word, .str w) :: loc, fl⟩) := by
    intro b loc
    have : ∃ q, w.length = q + 1 := ⟨w.length - 1, by omega⟩
    obtain ⟨q, hq⟩ := this
    rw [hq]
    simp only [upV, loopV, setL]
    have hpp : ∀ (l : FL) (a b : MV), putN .place a (putN .place b l) = putN .place a l := by
      intro l a b
      induction l with
      | nil => rfl
      | cons x r ih =>
        obtain ⟨k, u⟩ := x
        simp only [putN]
        by_cases hk : k = .place
        · simp only [hk, if_true, putN]
        · simp only [hk, if_false, putN, ih]
    rw [hpp]
  obtain ⟨j1, h1⟩ := reg1_loop (orc tb K) fl w w.length 0 0 (by omega)
  have hz1 : (w.length : Int) < 1000 ∧ -1000 < (w.length : Int) := by omega
  have hfor1 : ex1 tb (orc tb K) (.forUp .place (.len (.loc .word)) bReg1) ⟨[(.word, .str w)], fl⟩ = loopV .place (exs tb (orc tb K) bReg1) (upV 0 w.length) ⟨[(.word, .str w), (.place, .int 0)], fl⟩ := by
    simp only [xs1, xs2, xs3, xs4, xs5, xs6, xs7, xs8, xs9, xs10, xs11, xs12, xs13, xs14, xs15, xs16, xs17, xv1, xv2, xv3, xv4, xv5, xv6, xv7, xv8, xv9, xv10, xv11, xv12, xv13, xv14, xv15, xv16, xv17, xv18, xv19, xv20, xv21, xv22, xv23, xv24, xv25, xv26, xv27, getN, if_true, Option.map_some, Option.bind_some, lenM, asI, asS, asA, asB, as1, addI, cmpI, cmpS, cmpT, cmpN, evP, asBool, if_true, Option.bind_some, Option.map_some]
    rw [if_pos hz1, Int.toNat_natCast, hup bReg1 []]
    rfl
  by_cases ha : firstAt isApo w 0 < w.length
  · rw [if_pos ha] at h1
    have hm : mark w = firstAt isApo w 0 + 1 := by unfold mark; rw [if_pos ha]
    refine orcF_ret (ps := [.word]) (b := bLRegion) (lc := [(.word, .str w), (.place, .int j1)]) rfl rfl ?_
    rw [bLRegion_eq, hreg, hm]
    exact exs_out (hfor1.trans h1) (by simp)
  · rw [if_neg ha] at h1
    obtain ⟨j2, met2, h2⟩ := reg2_loop (orc tb K) fl w w.length 0 false j1 (by omega)
    have hfor2 : ex1 tb (orc tb K) (.forUp .place (.len (.loc .word)) bReg2) ⟨[(.word, .str w), (.place, .int j1), (.met, .bool false)], fl⟩ = loopV .place (exs tb (orc tb K) bReg2) (upV 0 w.length) ⟨[(.word, .str w), (.place, .int j1), (.met, .bool false)], fl⟩ := by
      simp only [xs1, xs2, xs3, xs4, xs5, xs6, xs7, xs8, xs9, xs10, xs11, xs12, xs13, xs14, xs15, xs16, xs17, xv1, xv2, xv3, xv4, xv5, xv6, xv7, xv8, xv9, xv10, xv11, xv12, xv13, xv14, xv15, xv16, xv17, xv18, xv19, xv20, xv21, xv22, xv23, xv24, xv25, xv26, xv27, getN, if_true, Option.map_some, Option.bind_some, lenM, asI, asS, asA, asB, as1, addI, cmpI, cmpS, cmpT, cmpN, evP, asBool, if_true, Option.bind_some, Option.map_some]
      rw [if_pos hz1, Int.toNat_natCast]
    have hhead : exs tb (orc tb K) bLRegion ⟨[(.word, .str w)], fl⟩ = exs tb (orc tb K) (.cons (.forUp .place (.len (.loc .word)) bReg2) (blk [.ret (.len (.loc .word))])) ⟨[(.word, .str w), (.place, .int j1), (.met, .bool false)], fl⟩ := by
      rw [bLRegion_eq]
      refine (exs_next (hfor1.trans h1)).trans ?_
      exact exs_next rfl
    have hm : mark w = if firstAt isV w 0 < w.length then (if firstAt notV w (firstAt isV w 0 + 1) < w.length then firstAt notV w (firstAt isV w 0 + 1) + 1 else w.length) else w.length := by unfold mark; rw [if_neg ha]
    have hB : regB w 0 false = if firstAt isV w 0 < w.length then firstAt notV w (firstAt isV w 0 + 1) else w.length := by unfold regB; simp only [Bool.false_eq_true, if_false]
    by_cases hr : regB w 0 false < w.length
    · rw [if_pos hr] at h2
      have hv : firstAt isV w 0 < w.length := by
        apply Nat.lt_of_not_le
        intro q
        rw [hB, if_neg (by omega)] at hr
        omega
      rw [hB, if_pos hv] at hr h2
      have hm' : mark w = firstAt notV w (firstAt isV w 0 + 1) + 1 := by rw [hm, if_pos hv, if_pos hr]
      refine orcF_ret (ps := [.word]) (b := bLRegion) (lc := [(.word, .str w), (.place, .int j2), (.met, .bool met2)]) rfl rfl (hhead.trans ?_)
      rw [hreg, hm']
      exact exs_out (hfor2.trans h2) (by simp)
    · rw [if_neg hr] at h2
      have hm' : mark w = w.length := by
        rw [hm]
        by_cases hv : firstAt isV w 0 < w.length
        · rw [if_pos hv]
          rw [hB, if_pos hv] at hr
          rw [if_neg hr]
        · rw [if_neg hv]
      have hn : Nat.max 3 w.length = w.length := Nat.max_eq_right h3
      refine orcF_ret (ps := [.word]) (b := bLRegion) (lc := [(.word, .str w), (.place, .int j2), (.met, .bool met2)]) rfl rfl (hhead.trans ?_)
      rw [hreg, hm', hn]
      exact (exs_next (hfor2.trans h2)).trans rfl
end
end DaWalk
open PySem PySem.W PyProof.Rows DaHead
set_option Elab.async false
set_option linter.unusedVariables false
set_option linter.constructorNameAsVariable false
set_option linter.unusedSimpArgs false
set_option maxRecDepth 100000
namespace DaWalk
theorem bef (x : Nat) : ([97, 98, 99, 100, 102, 103, 104, 106, 107, 108, 109, 110, 111, 112, 114, 116, 118, 121, 122, 229, 39] : List Nat).contains x = sEnding.contains x := by
  have hp : ([97, 98, 99, 100, 102, 103, 104, 106, 107, 108, 109, 110, 111, 112, 114, 116, 118, 121, 122, 229, 39] : List Nat).Perm sEnding := by decide
  rw [Bool.eq_iff_iff, List.contains_iff_mem, List.contains_iff_mem]
  exact hp.mem_iff
theorem dbl (x : Nat) : ([98, 100, 102, 103, 107, 108, 109, 110, 112, 114, 115, 116] : List Nat).contains x = sUndouble.contains x := by
  have hp : ([98, 100, 102, 103, 107, 108, 109, 110, 112, 114, 115, 116] : List Nat).Perm sUndouble := by decide
  rw [Bool.eq_iff_iff, List.contains_iff_mem, List.contains_iff_mem]
  exact hp.mem_iff
theorem inB (y : Nat) : inFnM (.str [y]) .lBefore = some (sEnding.contains y) := congrArg some (bef y)
theorem inD (y : Nat) : inFnM (.str [y]) .lDoubled = some (sUndouble.contains y) := congrArg some (dbl y)
theorem end_suf (text : List Nat) (ends : List (List Nat)) : (endOf text ends).length ≤ text.length := by
  rcases fold_mem text ends [] with q | q
  · unfold endOf; rw [q]; simp
  · exact q.2.length_le
noncomputable def lStemA : M1 := .ifs (.or (.cmp .NotEq (.loc .end_) (.str [115])) (.inFn (.idx (.loc .stem) (.sub (.len (.loc .stem)) (.int 1))) .lBefore)) (blk [.asgL .word (.loc .stem)]) .nil
noncomputable def lStemB : M1 := .ifs (.endsw (.loc .word) (.str [105, 103, 115, 116])) (blk [.asgL .word (.slcTo (.loc .word) (.sub (.len (.loc .word)) (.int 2)))]) .nil
noncomputable def lStemC : M1 := .ifs (.cmp .Eq (.loc .end_) (.str [108, 248, 115, 116])) (blk [.asgL .word (.slcTo (.loc .word) (.sub (.len (.loc .word)) (.int 1)))])
    (blk [.ifs (.cmp .NotEq (.loc .end_) (.str [])) (blk [.asgL .word (.fn2 .lPair (.slcTo (.loc .word) (.sub (.len (.loc .word)) (.len (.loc .end_)))) (.loc .first))]) .nil])
noncomputable def lStemD : M1 := .ifs (.and3 (.cmp .GtE (.loc .last) (.loc .first)) (.inFn (.idx (.loc .word) (.loc .last)) .lDoubled) (.cmp .Eq (.idx (.loc .word) (.sub (.loc .last) (.int 1))) (.idx (.loc .word) (.loc .last)))) (blk [.asgL .word (.slcTo (.loc .word) (.loc .last))]) .nil
noncomputable def lStemE : M1 := .ifs (.endsw (.loc .word) (.str [39])) (blk [.asgL .word (.slcTo (.loc .word) (.sub (.len (.loc .word)) (.int 1)))]) .nil
theorem bLStem_eq : bLStem = .cons (.ifs (.cmp .Lt (.len (.loc .word)) (.int 3)) (blk [.ret (.loc .word)]) .nil) (.cons (.asgL .first (.fn1 .lRegion (.loc .word))) (.cons (.asgL .end_ (.fn2 .lEnd (.slcFrom (.loc .word) (.loc .first)) (.glob .lawMain)))
  (.cons (.asgL .stem (.slcTo (.loc .word) (.sub (.len (.loc .word)) (.len (.loc .end_))))) (.cons lStemA (.cons (.asgL .word (.fn2 .lPair (.loc .word) (.loc .first))) (.cons lStemB (.cons (.asgL .end_ (.fn2 .lEnd (.slcFrom (.loc .word) (.loc .first)) (.glob .lawOther)))
  (.cons lStemC (.cons (.asgL .last (.sub (.len (.loc .word)) (.int 1))) (.cons lStemD (.cons lStemE (blk [.ret (.loc .word)])))))))))))) := rfl
section
variable (w : List Nat) (K : Nat) (O : Orc) (fl : Fl) (p : Nat) (e st : List Nat)
noncomputable abbrev L4 (w : List Nat) (p : Nat) (e st : List Nat) : FL := [(.word, .str w), (.first, .int p), (.end_, .str e), (.stem, .str st)]
noncomputable abbrev L5 (w : List Nat) (p : Nat) (e st : List Nat) (la : Int) : FL := [(.word, .str w), (.first, .int p), (.end_, .str e), (.stem, .str st), (.last, .int la)]
theorem stA (h3 : 3 ≤ w.length) (he : e = endOf (w.drop p) lMain) (hst : st = w.take (w.length - e.length)) : ex1 tb O lStemA ⟨L4 w p e st, fl⟩ = some (.next, ⟨L4 (step1 w p) p e st, fl⟩) := by
  have hs : step1 w p = if e ≠ [115] ∨ sEnding.contains (st.getD (st.length - 1) 0) = true then st else w := by unfold step1; rw [← he, ← hst]
  rw [hs]
  by_cases h1 : e = [115]
  · have hl : st.length = w.length - 1 := by rw [hst, h1]; simp
    have hg : st[st.length - 1]? = some (st.getD (st.length - 1) 0) := by
      rw [List.getD_eq_getElem?_getD, List.getElem?_eq_getElem (by omega)]; rfl
    have e1 : (1 : Int) ≤ st.length := by omega
    have e2 : ((st.length : Int) - 1).toNat = st.length - 1 := by omega
    generalize st.getD (st.length - 1) 0 = y at hg
    have hb := inB y
    cases hc : sEnding.contains y with
    | true =>
      rw [hc] at hb
      rw [if_pos (.inr rfl)]
      simp [lStemA, blk, exs, xs1, xs2, xs3, xs4, xs5, xs6, xs7, xs8, xs9, xs10, xs11, xs12, xs13, xs14, xs15, xs16, xs17, xv1, xv2, xv3, xv4, xv5, xv6, xv7, xv8, xv9, xv10, xv11, xv12, xv13, xv14, xv15, xv16, xv17, xv18, xv19, xv20, xv21, xv22, xv23, xv24, xv25, xv26, xv27, xt1, xt2, xt3, xt4, xt5, xt6, xt8, xt12, xt13, xt14, xt15, xt23, xt27, xt28, xt29, xt30, xt31, xt32, xt33, getN, setL, putN, cmpM, lenM, subM, idxM, isLoc, h1, e1, e2, hg, hb]
    | false =>
      rw [hc] at hb
      rw [if_neg (by simp [h1])]
      simp [lStemA, blk, exs, xs1, xs2, xs3, xs4, xs5, xs6, xs7, xs8, xs9, xs10, xs11, xs12, xs13, xs14, xs15, xs16, xs17, xv1, xv2, xv3, xv4, xv5, xv6, xv7, xv8, xv9, xv10, xv11, xv12, xv13, xv14, xv15, xv16, xv17, xv18, xv19, xv20, xv21, xv22, xv23, xv24, xv25, xv26, xv27, xt1, xt2, xt3, xt4, xt5, xt6, xt8, xt12, xt13, xt14, xt15, xt23, xt27, xt28, xt29, xt30, xt31, xt32, xt33, getN, setL, putN, cmpM, lenM, subM, idxM, isLoc, h1, e1, e2, hg, hb]
  · rw [if_pos (.inl h1)]
    simp [lStemA, blk, exs, xs1, xs2, xs3, xs4, xs5, xs6, xs7, xs8, xs9, xs10, xs11, xs12, xs13, xs14, xs15, xs16, xs17, xv1, xv2, xv3, xv4, xv5, xv6, xv7, xv8, xv9, xv10, xv11, xv12, xv13, xv14, xv15, xv16, xv17, xv18, xv19, xv20, xv21, xv22, xv23, xv24, xv25, xv26, xv27, xt1, xt2, xt3, xt4, xt5, xt6, xt8, xt12, xt13, xt14, xt15, xt23, xt27, xt28, xt29, xt30, xt31, xt32, xt33, getN, setL, putN, cmpM, h1]
theorem stB : ex1 tb O lStemB ⟨L4 w p e st, fl⟩ = some (.next, ⟨L4 (igst w) p e st, fl⟩) := by
  unfold igst
  cases h : [105, 103, 115, 116].isSuffixOf w with
  | true =>
    have hl := (List.isSuffixOf_iff_suffix.mp h).length_le
    simp at hl
    have e1 : (2 : Int) ≤ w.length := by omega
    have e2 : (w.length : Int) - 2 ≤ w.length := by omega
    have e3 : ((w.length : Int) - 2).toNat = w.length - 2 := by omega
    simp [lStemB, blk, exs, xs1, xs2, xs3, xs4, xs5, xs6, xs7, xs8, xs9, xs10, xs11, xs12, xs13, xs14, xs15, xs16, xs17, xv1, xv2, xv3, xv4, xv5, xv6, xv7, xv8, xv9, xv10, xv11, xv12, xv13, xv14, xv15, xv16, xv17, xv18, xv19, xv20, xv21, xv22, xv23, xv24, xv25, xv26, xv27, xt1, xt2, xt3, xt4, xt5, xt6, xt8, xt12, xt13, xt14, xt15, xt23, xt27, xt28, xt29, xt30, xt31, xt32, xt33, getN, setL, putN, endsM, asBool, lenM, subM, slcToM, h, e1, e2, e3]
  | false => simp [lStemB, blk, exs, xs1, xs2, xs3, xs4, xs5, xs6, xs7, xs8, xs9, xs10, xs11, xs12, xs13, xs14, xs15, xs16, xs17, xv1, xv2, xv3, xv4, xv5, xv6, xv7, xv8, xv9, xv10, xv11, xv12, xv13, xv14, xv15, xv16, xv17, xv18, xv19, xv20, xv21, xv22, xv23, xv24, xv25, xv26, xv27, xt1, xt2, xt3, xt4, xt5, xt6, xt8, xt12, xt13, xt14, xt15, xt23, xt27, xt28, xt29, xt30, xt31, xt32, xt33, getN, setL, putN, endsM, asBool, h]
theorem stC (he : e = endOf (w.drop p) lOther) : ex1 tb (orc tb (K + 2)) lStemC ⟨L4 w p e st, fl⟩ = some (.next, ⟨L4 (other w p) p e st, fl⟩) := by
  have hs : other w p = if e = [108, 248, 115, 116] then w.take (w.length - 1) else if e ≠ [] then pair (w.take (w.length - e.length)) p else w := by unfold other; rw [← he]
  rw [hs]
  have hl : e.length ≤ w.length := by rw [he]; exact Nat.le_trans (end_suf _ _) (by simp)
  by_cases h1 : e = [108, 248, 115, 116]
  · rw [if_pos h1]
    rw [h1] at hl
    simp at hl
    have e1 : (1 : Int) ≤ w.length := by omega
    have e2 : (w.length : Int) - 1 ≤ w.length := by omega
    have e3 : ((w.length : Int) - 1).toNat = w.length - 1 := by omega
    simp [lStemC, blk, exs, xs1, xs2, xs3, xs4, xs5, xs6, xs7, xs8, xs9, xs10, xs11, xs12, xs13, xs14, xs15, xs16, xs17, xv1, xv2, xv3, xv4, xv5, xv6, xv7, xv8, xv9, xv10, xv11, xv12, xv13, xv14, xv15, xv16, xv17, xv18, xv19, xv20, xv21, xv22, xv23, xv24, xv25, xv26, xv27, xt1, xt2, xt3, xt4, xt5, xt6, xt8, xt12, xt13, xt14, xt15, xt23, xt27, xt28, xt29, xt30, xt31, xt32, xt33, getN, setL, putN, cmpM, lenM, subM, slcToM, h1, e1, e2, e3]
  · rw [if_neg h1]
    by_cases h2 : e = []
    · rw [if_neg (by simp [h2])]
      simp [lStemC, blk, exs, xs1, xs2, xs3, xs4, xs5, xs6, xs7, xs8, xs9, xs10, xs11, xs12, xs13, xs14, xs15, xs16, xs17, xv1, xv2, xv3, xv4, xv5, xv6, xv7, xv8, xv9, xv10, xv11, xv12, xv13, xv14, xv15, xv16, xv17, xv18, xv19, xv20, xv21, xv22, xv23, xv24, xv25, xv26, xv27, xt1, xt2, xt3, xt4, xt5, xt6, xt8, xt12, xt13, xt14, xt15, xt23, xt27, xt28, xt29, xt30, xt31, xt32, xt33, getN, setL, putN, cmpM, h2]
    · rw [if_pos h2]
      have hp := lPair_is K fl (w.take (w.length - e.length)) p
      have e1 : (e.length : Int) ≤ w.length := by omega
      have e2 : (w.length : Int) - e.length ≤ w.length := by omega
      have e3 : ((w.length : Int) - e.length).toNat = w.length - e.length := by omega
      simp [lStemC, blk, exs, xs1, xs2, xs3, xs4, xs5, xs6, xs7, xs8, xs9, xs10, xs11, xs12, xs13, xs14, xs15, xs16, xs17, xv1, xv2, xv3, xv4, xv5, xv6, xv7, xv8, xv9, xv10, xv11, xv12, xv13, xv14, xv15, xv16, xv17, xv18, xv19, xv20, xv21, xv22, xv23, xv24, xv25, xv26, xv27, xt1, xt2, xt3, xt4, xt5, xt6, xt8, xt12, xt13, xt14, xt15, xt23, xt27, xt28, xt29, xt30, xt31, xt32, xt33, getN, setL, putN, cmpM, lenM, subM, slcToM, callM, h1, h2, e1, e2, e3, hp]
theorem stD (hp : 2 ≤ p) : ex1 tb O lStemD ⟨L5 w p e st ((w.length : Int) - 1), fl⟩ = some (.next, ⟨L5 (undouble w p) p e st ((w.length : Int) - 1), fl⟩) := by
  by_cases h1 : p < w.length
  · have e1 : (p : Int) ≤ (w.length : Int) - 1 := by omega
    have e2 : (1 : Int) ≤ w.length := by omega
    have e3 : ((w.length : Int) - 1).toNat = w.length - 1 := by omega
    have e4 : (1 : Int) ≤ (w.length : Int) - 1 := by omega
    have e5 : ((w.length : Int) - 1 - 1).toNat = w.length - 2 := by omega
    have e6 : (w.length : Int) - 1 ≤ w.length := by omega
    have hg : w[w.length - 1]? = some (w.getD (w.length - 1) 0) := by
      rw [List.getD_eq_getElem?_getD, List.getElem?_eq_getElem (by omega)]; rfl
    have hg2 : w[w.length - 2]? = some (w.getD (w.length - 2) 0) := by
      rw [List.getD_eq_getElem?_getD, List.getElem?_eq_getElem (by omega)]; rfl
    unfold undouble
    generalize w.getD (w.length - 1) 0 = y at hg
    generalize w.getD (w.length - 2) 0 = z at hg2
    have hb := inD y
    cases hc : sUndouble.contains y with
    | true =>
      rw [hc] at hb
      by_cases hq : z = y
      · rw [if_pos ⟨h1, rfl, hq⟩]
        simp [lStemD, blk, exs, xs1, xs2, xs3, xs4, xs5, xs6, xs7, xs8, xs9, xs10, xs11, xs12, xs13, xs14, xs15, xs16, xs17, xv1, xv2, xv3, xv4, xv5, xv6, xv7, xv8, xv9, xv10, xv11, xv12, xv13, xv14, xv15, xv16, xv17, xv18, xv19, xv20, xv21, xv22, xv23, xv24, xv25, xv26, xv27, xt1, xt2, xt3, xt4, xt5, xt6, xt8, xt12, xt13, xt14, xt15, xt23, xt27, xt28, xt29, xt30, xt31, xt32, xt33, getN, setL, putN, cmpM, lenM, subM, idxM, isLoc, slcToM, e1, e2, e3, e4, e5, e6, hg, hg2, hq, hb]
      · rw [if_neg (fun h => hq h.2.2)]
        simp [lStemD, blk, exs, xs1, xs2, xs3, xs4, xs5, xs6, xs7, xs8, xs9, xs10, xs11, xs12, xs13, xs14, xs15, xs16, xs17, xv1, xv2, xv3, xv4, xv5, xv6, xv7, xv8, xv9, xv10, xv11, xv12, xv13, xv14, xv15, xv16, xv17, xv18, xv19, xv20, xv21, xv22, xv23, xv24, xv25, xv26, xv27, xt1, xt2, xt3, xt4, xt5, xt6, xt8, xt12, xt13, xt14, xt15, xt23, xt27, xt28, xt29, xt30, xt31, xt32, xt33, getN, setL, putN, cmpM, lenM, subM, idxM, isLoc, slcToM, e1, e2, e3, e4, e5, e6, hg, hg2, hq, hb]
    | false =>
      rw [hc] at hb
      rw [if_neg (fun h => by cases h.2.1)]
      simp [lStemD, blk, exs, xs1, xs2, xs3, xs4, xs5, xs6, xs7, xs8, xs9, xs10, xs11, xs12, xs13, xs14, xs15, xs16, xs17, xv1, xv2, xv3, xv4, xv5, xv6, xv7, xv8, xv9, xv10, xv11, xv12, xv13, xv14, xv15, xv16, xv17, xv18, xv19, xv20, xv21, xv22, xv23, xv24, xv25, xv26, xv27, xt1, xt2, xt3, xt4, xt5, xt6, xt8, xt12, xt13, xt14, xt15, xt23, xt27, xt28, xt29, xt30, xt31, xt32, xt33, getN, setL, putN, cmpM, lenM, subM, idxM, isLoc, slcToM, e1, e2, e3, e4, e5, e6, hg, hg2, hb]
  · have e1 : ¬ ((p : Int) ≤ (w.length : Int) - 1) := by omega
    have : undouble w p = w := by unfold undouble; rw [if_neg (fun h => h1 h.1)]
    rw [this]
    simp [lStemD, blk, exs, xs1, xs2, xs3, xs4, xs5, xs6, xs7, xs8, xs9, xs10, xs11, xs12, xs13, xs14, xs15, xs16, xs17, xv1, xv2, xv3, xv4, xv5, xv6, xv7, xv8, xv9, xv10, xv11, xv12, xv13, xv14, xv15, xv16, xv17, xv18, xv19, xv20, xv21, xv22, xv23, xv24, xv25, xv26, xv27, xt1, xt2, xt3, xt4, xt5, xt6, xt8, xt12, xt13, xt14, xt15, xt23, xt27, xt28, xt29, xt30, xt31, xt32, xt33, getN, cmpM, e1]
theorem stE {la : Int} : ex1 tb O lStemE ⟨L5 w p e st la, fl⟩ = some (.next, ⟨L5 (apo w) p e st la, fl⟩) := by
  unfold apo
  cases h : [39].isSuffixOf w with
  | true =>
    have hl := (List.isSuffixOf_iff_suffix.mp h).length_le
    simp at hl
    have e1 : (1 : Int) ≤ w.length := by omega
    have e2 : (w.length : Int) - 1 ≤ w.length := by omega
    have e3 : ((w.length : Int) - 1).toNat = w.length - 1 := by omega
    simp [lStemE, blk, exs, xs1, xs2, xs3, xs4, xs5, xs6, xs7, xs8, xs9, xs10, xs11, xs12, xs13, xs14, xs15, xs16, xs17, xv1, xv2, xv3, xv4, xv5, xv6, xv7, xv8, xv9, xv10, xv11, xv12, xv13, xv14, xv15, xv16, xv17, xv18, xv19, xv20, xv21, xv22, xv23, xv24, xv25, xv26, xv27, xt1, xt2, xt3, xt4, xt5, xt6, xt8, xt12, xt13, xt14, xt15, xt23, xt27, xt28, xt29, xt30, xt31, xt32, xt33, getN, setL, putN, endsM, asBool, lenM, subM, slcToM, h, e1, e2, e3]
  | false => simp [lStemE, blk, exs, xs1, xs2, xs3, xs4, xs5, xs6, xs7, xs8, xs9, xs10, xs11, xs12, xs13, xs14, xs15, xs16, xs17, xv1, xv2, xv3, xv4, xv5, xv6, xv7, xv8, xv9, xv10, xv11, xv12, xv13, xv14, xv15, xv16, xv17, xv18, xv19, xv20, xv21, xv22, xv23, xv24, xv25, xv26, xv27, xt1, xt2, xt3, xt4, xt5, xt6, xt8, xt12, xt13, xt14, xt15, xt23, xt27, xt28, xt29, xt30, xt31, xt32, xt33, getN, setL, putN, endsM, asBool, h]
end
/-- the law's own stem -/
theorem lStem_is (w : List Nat) (K : Nat) (fl : Fl) (hz : w.length ≤ 60) : orc tb (K + 3) .lStem [.str w] fl = some (.str (stemL w), fl) := by
  by_cases h3 : w.length < 3
  · have e1 : (w.length : Int) < 3 := by omega
    have : stemL w = w := by unfold stemL; rw [if_pos h3]
    rw [this]
    refine orcF_ret (ps := [.word]) (b := bLStem) (lc := [(.word, .str w)]) rfl rfl ?_
    rw [bLStem_eq]
    refine exs_out ?_ (by simp)
    simp [xs1, xs2, xs3, xs4, xs5, xs6, xs7, xs8, xs9, xs10, xs11, xs12, xs13, xs14, xs15, xs16, xs17, xv1, xv2, xv3, xv4, xv5, xv6, xv7, xv8, xv9, xv10, xv11, xv12, xv13, xv14, xv15, xv16, xv17, xv18, xv19, xv20, xv21, xv22, xv23, xv24, xv25, xv26, xv27, xt1, xt2, xt3, xt4, xt5, xt6, xt8, xt12, xt13, xt14, xt15, xt23, xt27, xt28, xt29, xt30, xt31, xt32, xt33, getN, lenM, cmpM, exs, blk, e1]
  · have e1 : ¬ (w.length : Int) < 3 := by omega
    have hreg := lRegion_is w (K + 1) fl (by omega) hz
    have hr3 : 3 ≤ reg w := by unfold reg; rw [if_pos (by omega)]; exact Nat.le_max_left _ _
    have hst : stemL w = apo (undouble (other (igst (pair (step1 w (reg w)) (reg w))) (reg w)) (reg w)) := by unfold stemL; rw [if_neg h3]
    generalize hp : reg w = p at *
    have hm : orc tb (K + 2) .lEnd [.str (w.drop p), .lstS lMain] fl = some (.str (endOf (w.drop p) lMain), fl) := lEnd_is (K + 1) fl (w.drop p) _ _
    have hpr := lPair_is K fl (step1 w p) p
    generalize hv : igst (pair (step1 w p) p) = v at *
    have ho : orc tb (K + 2) .lEnd [.str (v.drop p), .lstS lOther] fl = some (.str (endOf (v.drop p) lOther), fl) := lEnd_is (K + 1) fl (v.drop p) _ _
    have hle : (endOf (w.drop p) lMain).length ≤ w.length := Nat.le_trans (end_suf _ _) (by simp)
    generalize hE : endOf (w.drop p) lMain = e at *
    generalize hE2 : endOf (v.drop p) lOther = e2 at *
    have e3 : (e.length : Int) ≤ w.length := by omega
    have e4 : (w.length : Int) - e.length ≤ w.length := by omega
    have e5 : ((w.length : Int) - e.length).toNat = w.length - e.length := by omega
    rw [hst]
    refine orcF_ret (ps := [.word]) (b := bLStem) (lc := L5 (apo (undouble (other v p) p)) p e2 (w.take (w.length - e.length)) (((other v p).length : Int) - 1)) rfl rfl ?_
    rw [bLStem_eq]
    refine (exs_next (τ := ⟨[(.word, .str w)], fl⟩) (by first | rfl | simp [xs1, xs2, xs3, xs4, xs5, xs6, xs7, xs8, xs9, xs10, xs11, xs12, xs13, xs14, xs15, xs16, xs17, xv1, xv2, xv3, xv4, xv5, xv6, xv7, xv8, xv9, xv10, xv11, xv12, xv13, xv14, xv15, xv16, xv17, xv18, xv19, xv20, xv21, xv22, xv23, xv24, xv25, xv26, xv27, xt1, xt2, xt3, xt4, xt5, xt6, xt8, xt12, xt13, xt14, xt15, xt23, xt27, xt28, xt29, xt30, xt31, xt32, xt33, getN, lenM, cmpM, exs, e1])).trans ?_
    refine (exs_next (τ := ⟨[(.word, .str w), (.first, .int p)], fl⟩) (by first | rfl | simp [xs1, xs2, xs3, xs4, xs5, xs6, xs7, xs8, xs9, xs10, xs11, xs12, xs13, xs14, xs15, xs16, xs17, xv1, xv2, xv3, xv4, xv5, xv6, xv7, xv8, xv9, xv10, xv11, xv12, xv13, xv14, xv15, xv16, xv17, xv18, xv19, xv20, xv21, xv22, xv23, xv24, xv25, xv26, xv27, getN, callM, hreg, setL, putN])).trans ?_
    refine (exs_next (τ := ⟨[(.word, .str w), (.first, .int p), (.end_, .str e)], fl⟩) (by first | rfl | simp [xs1, xs2, xs3, xs4, xs5, xs6, xs7, xs8, xs9, xs10, xs11, xs12, xs13, xs14, xs15, xs16, xs17, xv1, xv2, xv3, xv4, xv5, xv6, xv7, xv8, xv9, xv10, xv11, xv12, xv13, xv14, xv15, xv16, xv17, xv18, xv19, xv20, xv21, xv22, xv23, xv24, xv25, xv26, xv27, getN, callM, slcFromM, show tb.glb .lawMain = some (.lstS lMain) from rfl, hm, setL, putN])).trans ?_
    refine (exs_next (τ := ⟨L4 w p e (w.take (w.length - e.length)), fl⟩) (by first | rfl | simp [xs1, xs2, xs3, xs4, xs5, xs6, xs7, xs8, xs9, xs10, xs11, xs12, xs13, xs14, xs15, xs16, xs17, xv1, xv2, xv3, xv4, xv5, xv6, xv7, xv8, xv9, xv10, xv11, xv12, xv13, xv14, xv15, xv16, xv17, xv18, xv19, xv20, xv21, xv22, xv23, xv24, xv25, xv26, xv27, getN, lenM, subM, slcToM, setL, putN, e3, e4, e5])).trans ?_
    refine (exs_next (stA w (orc tb (K + 2)) fl p e _ (by omega) hE.symm rfl)).trans ?_
    refine (exs_next (τ := ⟨L4 (pair (step1 w p) p) p e (w.take (w.length - e.length)), fl⟩) (by first | rfl | simp [xs1, xs2, xs3, xs4, xs5, xs6, xs7, xs8, xs9, xs10, xs11, xs12, xs13, xs14, xs15, xs16, xs17, xv1, xv2, xv3, xv4, xv5, xv6, xv7, xv8, xv9, xv10, xv11, xv12, xv13, xv14, xv15, xv16, xv17, xv18, xv19, xv20, xv21, xv22, xv23, xv24, xv25, xv26, xv27, getN, callM, hpr, setL, putN])).trans ?_
    refine (exs_next (stB (pair (step1 w p) p) (orc tb (K + 2)) fl p e _)).trans ?_
    rw [hv]
    refine (exs_next (τ := ⟨L4 v p e2 (w.take (w.length - e.length)), fl⟩) (by first | rfl | simp [xs1, xs2, xs3, xs4, xs5, xs6, xs7, xs8, xs9, xs10, xs11, xs12, xs13, xs14, xs15, xs16, xs17, xv1, xv2, xv3, xv4, xv5, xv6, xv7, xv8, xv9, xv10, xv11, xv12, xv13, xv14, xv15, xv16, xv17, xv18, xv19, xv20, xv21, xv22, xv23, xv24, xv25, xv26, xv27, getN, callM, slcFromM, show tb.glb .lawOther = some (.lstS lOther) from rfl, ho, setL, putN])).trans ?_
    refine (exs_next (stC v K fl p e2 _ hE2.symm)).trans ?_
    refine (exs_next (τ := ⟨L5 (other v p) p e2 (w.take (w.length - e.length)) (((other v p).length : Int) - 1), fl⟩) (by first | rfl | simp [xs1, xs2, xs3, xs4, xs5, xs6, xs7, xs8, xs9, xs10, xs11, xs12, xs13, xs14, xs15, xs16, xs17, xv1, xv2, xv3, xv4, xv5, xv6, xv7, xv8, xv9, xv10, xv11, xv12, xv13, xv14, xv15, xv16, xv17, xv18, xv19, xv20, xv21, xv22, xv23, xv24, xv25, xv26, xv27, getN, lenM, subM, setL, putN])).trans ?_
    refine (exs_next (stD (other v p) (orc tb (K + 2)) fl p e2 _ (by omega))).trans ?_
    exact (exs_next (stE (undouble (other v p) p) (orc tb (K + 2)) fl p e2 _)).trans rfl
end DaWalk
open PySem PySem.W PyProof.Rows DaHead
set_option Elab.async false
set_option linter.unusedVariables false
set_option linter.constructorNameAsVariable false
set_option linter.unusedSimpArgs false
set_option maxRecDepth 100000
namespace DaWalk
theorem init_is (K : Nat) : orc tb (K + 2) .init_ [] (some []) = some (.none, some (F6 [] 0 0 0 0 0)) := by
  have h := setCurrent_0 K []
  refine orc_next (ps := []) (b := bInit) (lc := [(.self, .self)]) rfl rfl ?_
  simp [bInit, blk, exs, xs1, xs2, xs3, xs4, xs5, xs6, xs7, xs8, xs9, xs10, xs11, xs12, xs13, xs14, xs15, xs16, xs17, xv1, xv2, xv3, xv4, xv5, xv6, xv7, xv8, xv9, xv10, xv11, xv12, xv13, xv14, xv15, xv16, xv17, xv18, xv19, xv20, xv21, xv22, xv23, xv24, xv25, xv26, xv27, methOk, selfOk, getN, callM, h]
end DaWalk
open PySem PySem.W PyProof.Rows DaHead
set_option Elab.async false
set_option linter.unusedVariables false
set_option linter.constructorNameAsVariable false
set_option maxRecDepth 100000
namespace DaWalk
/-! the law's own frame: the pieces -/
noncomputable def lSigns : List (List Nat) := [[101], [114], [110], [115], [116], [100], [103], [105], [108], [107], [104], [248], [97], [39], [229], [230], [98], [99], [102], [106], [109], [111], [112], [113], [117], [118], [119], [120], [121], [122], [233], [246], [69], [83], [48], [45], [8217]]
noncomputable def lMore : List (List Nat) := [[105, 103, 115, 116], [115, 116], [98, 98], [100, 100], [102, 102], [103, 103], [107, 107], [108, 108], [109, 109], [110, 110], [112, 112], [114, 114], [115, 115], [116, 116], [99, 99], [118, 118], [122, 122], [108, 105, 103, 115, 116], [105, 103, 115, 116, 101], [101, 108, 105, 103, 115, 116, 101], [101, 108, 105, 103, 116], [101, 108, 115, 101], [108, 248, 115, 116, 101], [103, 100, 108, 105, 103], [107, 116, 101, 108, 105, 103], [100, 100, 105, 103], [115, 39], [39, 115], [107, 114, 97, 98], [102, 114, 105, 115, 107], [105, 110, 100, 98, 121, 103], [98, 101, 115, 116, 101, 109], [97, 114, 98, 101, 106, 100], [97, 102], [115, 116, 114], [98, 121, 39], [230, 114]]
noncomputable def pcs : List (List Nat) := lSigns ++ lMain ++ lPairs ++ lOther ++ lMore
theorem pcs_len : pcs.length = 115 := by decide +kernel
theorem pcs_le : ∀ x ∈ pcs, x.length ≤ 30 := by decide +kernel
noncomputable def lSizes : List Int := [24, 4, 5, 6, 7, 8, 9, 12]
noncomputable abbrev lawSc : Scope := fnC (topS 24)
noncomputable abbrev lawE (L fa : Addr) (cd : Value) : Env := envX (Str.ofString "law") lawSc L fa cd [(Str.ofString "pieces", L + 1)]
theorem law_env (L fa : Addr) (cd : Value) : envOfC (Str.ofString "law") lawSc L fa cd = lawE L fa cd := by kernel_rfl
theorem law_kind : lawSc.kind = .function := by kernel_rfl
theorem g_signs (P : Params) : nsIn (KF P) mainGlobals (Str.ofString "_law_signs") = some (some (.ref 445)) := by kernel_rfl
theorem g_main (P : Params) : nsIn (KF P) mainGlobals (Str.ofString "_law_main") = some (some (.ref 467)) := by kernel_rfl
theorem g_pairs (P : Params) : nsIn (KF P) mainGlobals (Str.ofString "_law_pairs") = some (some (.ref 468)) := by kernel_rfl
theorem g_other (P : Params) : nsIn (KF P) mainGlobals (Str.ofString "_law_other") = some (some (.ref 469)) := by kernel_rfl
theorem g_more (P : Params) : nsIn (KF P) mainGlobals (Str.ofString "_law_more") = some (some (.ref 470)) := by kernel_rfl
theorem g_sizes (P : Params) : nsIn (KF P) mainGlobals (Str.ofString "_law_sizes") = some (some (.ref 471)) := by kernel_rfl
theorem k_abs (P : Params) : nsIn (KF P) mainGlobals (Str.ofString "abs") = some none := by kernel_rfl
theorem b_abs : bootBuiltins (Str.ofString "abs") = some (.builtin "abs") := by decide +kernel
theorem o_signs (P : Params) : lstOk (KF P) 445 lSigns = true := by kernel_rfl
theorem o_main (P : Params) : lstOk (KF P) 467 lMain = true := by kernel_rfl
theorem o_pairs (P : Params) : lstOk (KF P) 468 lPairs = true := by kernel_rfl
theorem o_other (P : Params) : lstOk (KF P) 469 lOther = true := by kernel_rfl
theorem o_more (P : Params) : lstOk (KF P) 470 lMore = true := by kernel_rfl
noncomputable def intsOk : List Value → List Int → Bool
  | [], [] => true
  | .int x _ :: vs, l :: ls => x == l && intsOk vs ls
  | _, _ => false
theorem ints_of : ∀ {vs : List Value} {ls : List Int}, intsOk vs ls = true → IntsAre vs ls
  | [], [], _ => .nil
  | .int x t :: vs, l :: ls, h => by
    obtain ⟨h1, h2⟩ := Bool.and_eq_true_iff.mp h
    rw [beq_iff_eq.mp h1]
    exact .cons _ _ (ints_of h2)
noncomputable def ilstOk (K : Frag) (a : Addr) (ls : List Int) : Bool := match K.lookup a with
  | some ⟨.type "list", none, .seq vs 0, ⟨[]⟩⟩ => intsOk vs.toList ls
  | _ => false
theorem o_sizes (P : Params) : ilstOk (KF P) 471 lSizes = true := by kernel_rfl
theorem ilst_of {K : Frag} {a : Addr} {ls : List Int} (h : ilstOk K a ls = true) : ∃ vs, K.lookup a = some (listObj vs) ∧ IntsAre vs ls := by
  unfold ilstOk at h
  split at h
  · rename_i e; exact ⟨_, e, ints_of h⟩
  · cases h
theorem dbg (x : Str) (h : (x == ("__debug__" : Str)) = false) : (x == ("__debug__" : Str)) = false := h
theorem d_signs : (Str.ofString "_law_signs" == ("__debug__" : Str)) = false := by decide +kernel
theorem d_main : (Str.ofString "_law_main" == ("__debug__" : Str)) = false := by decide +kernel
theorem d_pairs : (Str.ofString "_law_pairs" == ("__debug__" : Str)) = false := by decide +kernel
theorem d_other : (Str.ofString "_law_other" == ("__debug__" : Str)) = false := by decide +kernel
theorem d_more : (Str.ofString "_law_more" == ("__debug__" : Str)) = false := by decide +kernel
theorem d_sizes : (Str.ofString "_law_sizes" == ("__debug__" : Str)) = false := by decide +kernel
theorem lk_signs : lawSc.names.lookup (Str.ofString "_law_signs") = some .globalImplicit := by decide +kernel
theorem lk_main : lawSc.names.lookup (Str.ofString "_law_main") = some .globalImplicit := by decide +kernel
theorem lk_pairs : lawSc.names.lookup (Str.ofString "_law_pairs") = some .globalImplicit := by decide +kernel
theorem lk_other : lawSc.names.lookup (Str.ofString "_law_other") = some .globalImplicit := by decide +kernel
theorem lk_more : lawSc.names.lookup (Str.ofString "_law_more") = some .globalImplicit := by decide +kernel
theorem lk_pieces : lawSc.names.lookup (Str.ofString "pieces") = some .cell := by decide +kernel
section
variable {w : World} {hb : Heap} {L : Addr} {s : Shared} {mean : ExcName → Option Value} {mg mb : Str → Option Value} {A : Around} {E : Value → Shared → Prop} {fa : Addr} {cd : Value} {m : Str → Option Value} {news : List (Addr × Obj)}
theorem lst_in {a : Addr} {ls : List (List Nat)} {h : Heap} (X : (KF w.params).In h) (o : lstOk (KF w.params) a ls = true) : ∃ vs, h.IsList a (List.toArray vs) ∧ StrsAre vs (ls.map txS) := by
  obtain ⟨_, _, b, vs, e, hl, hs⟩ := lst_of (w := w) (me := none) o
  cases e
  exact ⟨vs, isList_of X hl, hs⟩
theorem law_pieces {p1 p2 p3 p4 p5 q1 q2 q3 q4 : Pos} {Q : Value → Shared → Prop} (F : Fr hb L s.heap m) (N : News hb L s.heap news) (X : (KF w.params).In hb) (T : Top qv (looseW qv lv) mean mg mb hb)
    (h : ∀ P vs h', Fr hb L h' m → News hb L h' ((P, listObj vs) :: news) → (∀ p ∈ news, p.1 ≠ P) → StrsAre vs (pcs.map txS) → Q (.ref P) { s with heap := h' }) :
    wpAny (model pw w) A (eval (.BinOp (.BinOp (.BinOp (.BinOp (.Name (Str.ofString "_law_signs") p1) .Add (.Name (Str.ofString "_law_main") p2) q1) .Add (.Name (Str.ofString "_law_pairs") p3) q2) .Add (.Name (Str.ofString "_law_other") p4) q3) .Add (.Name (Str.ofString "_law_more") p5) q4) (lawE L fa cd)) Q E s := by
  obtain ⟨v1, l1, e1⟩ := lst_in X (o_signs w.params)
  obtain ⟨v2, l2, e2⟩ := lst_in X (o_main w.params)
  obtain ⟨v3, l3, e3⟩ := lst_in X (o_pairs w.params)
  obtain ⟨v4, l4, e4⟩ := lst_in X (o_other w.params)
  obtain ⟨v5, l5, e5⟩ := lst_in X (o_more w.params)
  have z1 : v1.length = 37 := by rw [e1.len_eq]; decide +kernel
  have z2 : v2.length = 32 := by rw [e2.len_eq]; decide +kernel
  have z3 : v3.length = 4 := by rw [e3.len_eq]; decide +kernel
  have z4 : v4.length = 5 := by rw [e4.len_eq]; decide +kernel
  have z5 : v5.length = 37 := by rw [e5.len_eq]; decide +kernel
  refine wpAny_BinOp (wpAny_BinOp (wpAny_BinOp (wpAny_BinOp ?_)))
  refine nameX_K F X (topRead_of T) (g_signs _) ?_ law_kind lk_signs d_signs
  refine nameX_K F X (topRead_of T) (g_main _) ?_ law_kind lk_main d_main
  refine add_lists F N (F.lst l1) (F.lst l2) (fun h1 F1 N1 => ?_) (by rw [z1, z2]; unfold sizeLine; omega)
  refine nameX_K F1 X (topRead_of T) (g_pairs _) ?_ law_kind lk_pairs d_pairs
  have r1 := N1 _ (List.mem_cons_self)
  refine add_lists (s := { s with heap := h1 }) F1 N1 (IsL.isList r1.1) (F1.lst l3) (fun h2 F2 N2 => ?_) (by rw [List.length_append, z1, z2, z3]; unfold sizeLine; omega)
  refine nameX_K F2 X (topRead_of T) (g_other _) ?_ law_kind lk_other d_other
  have r2 := N2 _ (List.mem_cons_self)
  refine add_lists (s := { s with heap := h2 }) F2 N2 (IsL.isList r2.1) (F2.lst l4) (fun h3 F3 N3 => ?_) (by rw [List.length_append, List.length_append, z1, z2, z3, z4]; unfold sizeLine; omega)
  refine nameX_K F3 X (topRead_of T) (g_more _) ?_ law_kind lk_more d_more
  have r3 := N3 _ (List.mem_cons_self)
  refine add_lists (s := { s with heap := h3 }) F3 N3 (IsL.isList r3.1) (F3.lst l5) (fun h4 F4 N4 => ?_) (by rw [List.length_append, List.length_append, List.length_append, z1, z2, z3, z4, z5]; unfold sizeLine; omega)
  have mem : ∀ p ∈ news, p ∈ (h2.objs.size, ({ cls := .type "list", data := .seq (v1 ++ v2 ++ v3 ++ v4).toArray } : Obj)) :: (h1.objs.size, ({ cls := .type "list", data := .seq (v1 ++ v2 ++ v3).toArray } : Obj)) :: (s.heap.objs.size, ({ cls := .type "list", data := .seq (v1 ++ v2).toArray } : Obj)) :: news :=
    fun p hp => List.mem_cons_of_mem _ (List.mem_cons_of_mem _ (List.mem_cons_of_mem _ hp))
  refine h h3.objs.size (v1 ++ v2 ++ v3 ++ v4 ++ v5) h4 F4 (fun p hp => ?_) (fun p hp => Nat.ne_of_lt (Heap.lt_size (N3 p (mem p hp)).1)) ?_
  · rcases List.mem_cons.mp hp with rfl | hp
    · exact N4 _ List.mem_cons_self
    · exact N4 _ (List.mem_cons_of_mem _ (mem p hp))
  · have := (((e1.append' e2).append' e3).append' e4).append' e5
    rw [← List.map_append, ← List.map_append, ← List.map_append, ← List.map_append] at this
    exact this
end
end DaWalk
open PySem PySem.W PyProof.Rows DaHead
set_option Elab.async false
set_option linter.unusedVariables false
set_option linter.constructorNameAsVariable false
set_option maxRecDepth 100000
namespace DaWalk
/-! the sizes -/
noncomputable def lawS (i : Nat) : Stmt := nthS (fnB (topS 24)) i
noncomputable def compSc : Stmt → Scope
  | .Assign _ (.ListComp _ _ sc _) _ => sc
  | .Return (some (.ListComp _ _ sc _)) _ => sc
  | _ => default
noncomputable abbrev sizeSc : Scope := compSc (lawS 1)
noncomputable abbrev pcCl (L : Addr) : List (Str × Addr) := [(Str.ofString "pieces", L + 1)]
noncomputable abbrev sizeE (C L fa : Addr) (cd : Value) : Env := compEnvC sizeSc (pcCl L) C (lawE L fa cd)
theorem sz_kind (C L fa : Addr) (cd : Value) : (sizeE C L fa cd).scope.kind = .function := by kernel_rfl
theorem sz_sizes (C L fa : Addr) (cd : Value) : (sizeE C L fa cd).kindOf (Str.ofString "_law_sizes") = some .globalImplicit := by kernel_rfl
theorem sz_abs (C L fa : Addr) (cd : Value) : (sizeE C L fa cd).kindOf (Str.ofString "abs") = some .globalImplicit := by kernel_rfl
theorem sz_len (C L fa : Addr) (cd : Value) : (sizeE C L fa cd).kindOf (Str.ofString "len") = some .globalImplicit := by kernel_rfl
theorem sz_number (C L fa : Addr) (cd : Value) : (sizeE C L fa cd).kindOf (Str.ofString "number") = some .local := by kernel_rfl
theorem sz_pieces (C L fa : Addr) (cd : Value) : (sizeE C L fa cd).kindOf (Str.ofString "pieces") = some .cell := by kernel_rfl
theorem d_abs : (Str.ofString "abs" == ("__debug__" : Str)) = false := by decide +kernel
theorem d_number : (Str.ofString "number" == ("__debug__" : Str)) = false := by decide +kernel
theorem d_pieces : (Str.ofString "pieces" == ("__debug__" : Str)) = false := by decide +kernel
theorem lSizes_in (k : Int) (h0 : 0 ≤ k) (h8 : k < 8) : ∃ x, lSizes[k.toNat]? = some x ∧ 0 ≤ x ∧ x ≤ 24 := by
  have : k.toNat < 8 := by omega
  generalize k.toNat = j at this
  match j, this with
  | 0, _ => exact ⟨24, rfl, by decide, by decide⟩
  | 1, _ => exact ⟨4, rfl, by decide, by decide⟩
  | 2, _ => exact ⟨5, rfl, by decide, by decide⟩
  | 3, _ => exact ⟨6, rfl, by decide, by decide⟩
  | 4, _ => exact ⟨7, rfl, by decide, by decide⟩
  | 5, _ => exact ⟨8, rfl, by decide, by decide⟩
  | 6, _ => exact ⟨9, rfl, by decide, by decide⟩
  | 7, _ => exact ⟨12, rfl, by decide, by decide⟩
theorem ints_at : ∀ {vs : List Value} {ns : List Int} {i : Nat} {x : Int}, IntsAre vs ns → ns[i]? = some x → ∃ t, vs[i]? = some (.int x t)
  | _, _, _, _, .nil, h => by simp at h
  | _, _, 0, _, .cons n t h, e => by simp at e; subst e; exact ⟨t, rfl⟩
  | _, _, i + 1, _, .cons n t h, e => by
    simp at e
    obtain ⟨u, hu⟩ := ints_at h e
    exact ⟨u, by simpa using hu⟩
noncomputable def Pylong (w : World) (A : Around) (hb : Heap) : Prop := ∀ s : Shared, (∀ b o, hb.get? b = some o → s.heap.get? b = some o) → PySem.PylongRoom (model pw w) A s
section
variable {w : World} {hb : Heap} {L : Addr} {s : Shared} {mean : ExcName → Option Value} {mg mb : Str → Option Value} {A : Around} {E : Value → Shared → Prop} {fa : Addr} {cd : Value} {m : Str → Option Value} {news : List (Addr × Obj)}
theorem elt_size {C : Addr} {oC oc : Obj} {m₂ : Str → Option Value} {n : Int} {t : Tok} {P : Addr} {pv : List Value} {p1 p2 p3 p4 p5 p6 p7 p8 q1 q2 q3 q4 q5 : Pos} {Q : Value → Shared → Prop} (F : Fr hb L s.heap m) (N : News hb L s.heap news) (X : (KF w.params).In hb)
    (T : Top qv (looseW qv lv) mean mg mb hb) (hr : Pylong w A hb) (hC : (C, oC) ∈ news) (nC : LCg.NsObj oC m₂) (hn : m₂ (Str.ofString "number") = some (.int n t)) (hc : (L + 1, oc) ∈ news) (dc : oc.data = .cell (some (.ref P))) (hP : (P, listObj pv) ∈ news) (zP : pv.length = 115)
    (h : ∀ x u tk, 0 ≤ x → x ≤ 24 → Q (.int x u) { s with toks := tk }) :
    wpAny (model pw w) A (eval (.Subscript (.Name (Str.ofString "_law_sizes") p1) (.BinOp (.BinOp (.Call (.Name (Str.ofString "abs") p2) [.Name (Str.ofString "number") p3] [] q1) .FloorDiv (.Call (.Name (Str.ofString "len") p4) [.Name (Str.ofString "pieces") p5] [] q2) p6) .Mod (.Call (.Name (Str.ofString "len") p7) [.Name (Str.ofString "_law_sizes") p8] [] q3) q4) q5) (sizeE C L fa cd)) Q E s := by
  obtain ⟨sv, es, hs⟩ := ilst_of (o_sizes w.params)
  have zs : sv.length = 8 := by rw [hs.length]; rfl
  refine Subscript_ (LCgL.ld_global F X T (g_sizes _) ?_ rfl (sz_kind _ _ _ _) (sz_sizes _ _ _ _) d_sizes)
  refine wpAny_BinOp (wpAny_BinOp ?_)
  refine Call_Name1 (LCgL.ld_built F X T (k_abs _) b_abs (by decide) ?_ rfl rfl (sz_kind _ _ _ _) (sz_abs _ _ _ _) d_abs) rfl
  refine PySem.callWith_builtin1 (LCgL.ld_own N hC nC hn ?_ (sz_kind _ _ _ _) (sz_number _ _ _ _) d_number)
  refine call_abs_int fun u tk => ?_
  refine Call_Name1 (LCgL.ld_built (s := { s with toks := tk }) F X T (k_len _) b_len (by decide) ?_ rfl rfl (sz_kind _ _ _ _) (sz_len _ _ _ _) dbg_len) rfl
  refine PySem.callWith_builtin1 (lcf_cell (s := { s with toks := tk }) N rfl hc dc ?_ (sz_kind _ _ _ _) (sz_pieces _ _ _ _) d_pieces)
  refine PyProof.Rows.len_list (s := { s with toks := tk }) (IsL.isList (N _ hP).1) (by rw [List.size_toArray, zP]; decide) ?_
  rw [List.size_toArray, zP]
  refine floordiv_int (by decide) ?_ (.inr (hr _ F.keep))
  refine Call_Name1 (LCgL.ld_built (s := { s with toks := tk + 1 + 1 + 1 }) F X T (k_len _) b_len (by decide) ?_ rfl rfl (sz_kind _ _ _ _) (sz_len _ _ _ _) dbg_len) rfl
  refine PySem.callWith_builtin1 (LCgL.ld_global (s := { s with toks := tk + 1 + 1 + 1 }) F X T (g_sizes _) ?_ rfl (sz_kind _ _ _ _) (sz_sizes _ _ _ _) d_sizes)
  refine PyProof.Rows.len_list (s := { s with toks := tk + 1 + 1 + 1 }) (isList_of (X.keeps F.keep) es) (by rw [List.size_toArray, zs]; decide) ?_
  rw [List.size_toArray, zs]
  refine mod_int' (by decide) ?_
  generalize hk : Int.fmod (Int.fdiv (if n < 0 then -n else n) _) _ = k
  have h0 : 0 ≤ k := by rw [← hk]; exact Int.fmod_nonneg_of_pos _ (by decide)
  have h8 : k < 8 := by rw [← hk]; exact Int.fmod_lt_of_pos _ (by decide)
  obtain ⟨x, hx, x0, x1⟩ := lSizes_in k h0 h8
  obtain ⟨y, hy⟩ := ints_at hs hx
  exact item_listL (isList_of (X.keeps F.keep) es) h0 (by omega) hy (h x y _ x0 x1)
end
end DaWalk
open PySem PySem.W PyProof.Rows DaHead
set_option Elab.async false
set_option linter.unusedVariables false
set_option linter.constructorNameAsVariable false
set_option maxRecDepth 100000
namespace DaWalk
theorem lk_script : lawSc.names.lookup (Str.ofString "script") = some .local := by decide +kernel
theorem lk_sizes : lawSc.names.lookup (Str.ofString "sizes") = some .local := by decide +kernel
theorem d_script : (Str.ofString "script" == ("__debug__" : Str)) = false := by decide +kernel
theorem sz_names : (sizeSc.names.all fun z => decide (z.2 ≠ .cell) && (decide (z.2 ≠ .local) || decide (sizeSc.names.lookup z.1 = some .local))) = true := by decide +kernel
theorem sz_kind0 : sizeSc.kind = .function := by kernel_rfl
theorem sz_x : sizeSc.names.lookup (Str.ofString "number") = some .local := by decide +kernel
/-- what the sizes are -/
noncomputable def SzsOk (n : Nat) (szs : List Int) : Prop := szs.length = min 2 n ∧ ∀ x ∈ szs, 0 ≤ x ∧ x ≤ 24
section
variable {w : World} {hb : Heap} {L : Addr} {s : Shared} {mean : ExcName → Option Value} {mg mb : Str → Option Value} {A : Around} {E : Value → Shared → Prop} {fa : Addr} {cd : Value} {m : Str → Option Value} {news : List (Addr × Obj)}
theorem off_mem {D : Addr} : ∀ {l : List (Addr × Obj)}, LCg.Off1 D l → ∀ p ∈ l, p.1 ≠ D
  | [], _, _, h => nomatch h
  | _ :: _, x, p, h => by
    rcases List.mem_cons.mp h with rfl | h
    · exact x.1
    · exact off_mem x.2 p h
theorem ints_all {vs : List Value} {ns : List Int} (h : IntsAre vs ns) {v : Value} {i : Nat} (e : vs[i]? = some v) : ∃ n t, v = .int n t := by
  have hlt := (List.getElem?_eq_some_iff.mp e).1
  have : i < ns.length := by rw [← h.length]; exact hlt
  obtain ⟨t, ht⟩ := ints_at h (List.getElem?_eq_getElem this)
  rw [e] at ht
  exact ⟨_, t, Option.some.inj ht⟩
theorem ints_snoc {vs : List Value} {ns : List Int} (h : IntsAre vs ns) (x : Int) (t : Tok) : IntsAre (vs ++ [.int x t]) (ns ++ [x]) := h.append (.cons x t .nil)
theorem size_rest {h₀ h₁ : Heap} {oc : Obj} {P ax : Addr} {pv its : List Value} {nums : List Int} {all : List (Addr × Obj)} {Fin : List Value → List (Addr × Obj) → Prop} {p1 p2 p3 p4 p5 p6 p7 p8 q1 q2 q3 q4 q5 : Pos} (F₁ : Fr h₀ L h₁ m) (X : (KF w.params).In h₀)
    (T : Top qv (looseW qv lv) mean mg mb h₀) (hr : Pylong w A h₀) (hc : (L + 1, oc) ∈ news) (dc : oc.data = .cell (some (.ref P))) (hP : (P, listObj pv) ∈ news) (zP : pv.length = 115) (hi : IntsAre its nums) (sub : ∀ p ∈ news, p ∈ all) (hS : LCg.SrcAt h₀ ax its.toArray all) :
    ∀ (k i : Nat) (ys : List Value) (zs : List Int), IntsAre ys zs → zs.length = i → (∀ x ∈ zs, 0 ≤ x ∧ x ≤ 24) → (∀ sv szs, IntsAre sv szs → szs.length = i + k → (∀ x ∈ szs, 0 ≤ x ∧ x ≤ 24) → Fin sv all) →
      LCg.CompRest pw w A h₀ L m (lawE L fa cd) (.Subscript (.Name (Str.ofString "_law_sizes") p1) (.BinOp (.BinOp (.Call (.Name (Str.ofString "abs") p2) [.Name (Str.ofString "number") p3] [] q1) .FloorDiv (.Call (.Name (Str.ofString "len") p4) [.Name (Str.ofString "pieces") p5] [] q2) p6) .Mod (.Call (.Name (Str.ofString "len") p7) [.Name (Str.ofString "_law_sizes") p8] [] q3) q4) q5)
        (Str.ofString "number") sizeSc (pcCl L) s (LCg.SrcAt h₀ ax its.toArray) (fun i v => its.toArray[i]? = some v) Fin k i ys all
  | 0, i, ys, zs, hy, hl, hb, fin => LCg.CompRest.zero (fin ys zs hy (by omega) hb)
  | k + 1, i, ys, zs, hy, hl, hb, fin => by
    refine LCg.CompRest.succ fun v I oI C oC D m₂ h tk E' hP' nC hn F N off ne => ?_
    obtain ⟨n, t, rfl⟩ := ints_all hi (by simpa using hP')
    have inn : ∀ p ∈ news, p ∈ (I, oI) :: (C, oC) :: (D, LCg.lst ys) :: all := fun p hp => List.mem_cons_of_mem _ (List.mem_cons_of_mem _ (List.mem_cons_of_mem _ (sub p hp)))
    refine elt_size (s := { s with heap := h, toks := tk }) F N X T hr (List.mem_cons_of_mem _ List.mem_cons_self) nC hn (inn _ hc) dc (inn _ hP) zP fun x u tk' x0 x1 => ?_
    refine LCg.CompEnd.intro (s₁ := { s with heap := h, toks := tk }) F N all (fun p hp => hp) off hS ?_
    exact size_rest F₁ X T hr hc dc hP zP hi sub hS k (i + 1) (ys ++ [.int x u]) (zs ++ [x]) (ints_snoc hy x u) (by simp [hl]) (fun y hy' => by
      rcases List.mem_append.mp hy' with q | q
      · exact hb y q
      · rw [List.mem_singleton.mp q]; exact ⟨x0, x1⟩) fun sv szs h1 h2 h3 => fin sv szs h1 (by omega) h3
theorem law_sizes {oc : Obj} {P : Addr} {pv : List Value} {sl : Addr} {vs : List Value} {ns : List Int} {Q : Flow → Shared → Prop} (F : Fr hb L s.heap m) (N : News hb L s.heap news) (X : (KF w.params).In hb) (hh : A.handled = none)
    (T : Top qv (looseW qv lv) mean mg mb hb) (hr : Pylong w A hb) (hc : (L + 1, oc) ∈ news) (dc : oc.data = .cell (some (.ref P))) (hP : (P, listObj pv) ∈ news) (zP : pv.length = 115)
    (hsc : m (Str.ofString "script") = some (.ref sl)) (hsl : hb.IsList sl vs.toArray) (hi : IntsAre vs ns) (hz : ns.length ≤ 63)
    (h : ∀ S sv szs h' tk, Fr hb L h' (fun z => if z = Str.ofString "sizes" then some (.ref S) else m z) → News hb L h' ((S, LCg.lst sv) :: news) → (∀ p ∈ news, p.1 ≠ S) → IntsAre sv szs → SzsOk ns.length szs → Q .next { s with heap := h', toks := tk }) :
    wpAny (model pw w) A (exec (lawS 1) (lawE L fa cd)) Q E s := by
  have hnm := List.all_eq_true.mp sz_names
  refine LCg.Assign_ListComp_U (h₀ := hb) (L := L) (m := m) (cl := pcCl L) F rfl (by kernel_rfl) (by kernel_rfl) (fun z hz => ?_) sz_kind0 (fun z hz hl => ?_) sz_x lk_sizes (by kernel_rfl) ?_
  · have := hnm z hz
    rw [Bool.and_eq_true] at this
    exact of_decide_eq_true this.1
  · have := hnm z hz
    rw [Bool.and_eq_true, Bool.or_eq_true] at this
    rcases this.2 with q | q
    · exact absurd hl (of_decide_eq_true q)
    · exact of_decide_eq_true q
  · refine Subscript_ (nameX_L F hsc ?_ law_kind lk_script d_script)
    refine wpAny_Slice (evalPart_none_step (evalPart_some_step (wpAny_Constant_int (evalPart_none_step ?_))))
    refine slice_list (s := { s with toks := s.toks + 1 }) F N (F.lst hsl) .none (.int _ _) (fun h₁ F₁ N₁ => ?_) (by rfl) (by intro _; rfl) (by rw [List.size_toArray, hi.length]; unfold sizeLine; omega)
    have e2 : slicePick vs.toArray none (some 2) none = (vs.take 2).toArray := by simpa using slicePick_upto' vs.toArray 2
    rw [e2] at N₁
    have hi2 := hi.take 2
    have zlen : (ns.take 2).length = min 2 ns.length := by rw [List.length_take]
    refine LCg.CompSrc.ledger (s₁ := { s with heap := h₁, toks := s.toks + 1 }) hh F₁ N₁ (List.mem_cons_self) (by rw [List.size_toArray, hi2.length, zlen]; unfold sizeLine; omega) fun g => ?_
    rw [show (vs.take 2).toArray.size = min 2 ns.length from by rw [List.size_toArray, hi2.length, zlen]]
    refine size_rest (h₀ := hb) F₁ X T hr hc dc hP zP hi2 (fun p hp => List.mem_cons_of_mem _ hp) (.inr ⟨_, List.mem_cons_self, rfl, _, rfl⟩) (min 2 ns.length) 0 [] [] .nil rfl (fun _ hx => nomatch hx) fun sv szs hs hz2 hb2 => ?_
    intro D h' tk F' N' o1
    exact h D sv szs h' tk F' (fun p hp => by
      rcases List.mem_cons.mp hp with rfl | hp
      · exact N' _ List.mem_cons_self
      · exact N' _ (List.mem_cons_of_mem _ (List.mem_cons_of_mem _ hp))) (fun p hp => off_mem o1 p (List.mem_cons_of_mem _ hp)) hs ⟨by rw [hz2]; omega, hb2⟩
end
end DaWalk
open PySem PySem.W PyProof.Rows DaHead
set_option Elab.async false
set_option linter.unusedVariables false
set_option linter.constructorNameAsVariable false
set_option maxRecDepth 100000
namespace DaWalk
theorem lk_words : lawSc.names.lookup (Str.ofString "words") = some .local := by decide +kernel
theorem lk_place : lawSc.names.lookup (Str.ofString "place") = some .local := by decide +kernel
theorem lk_word : lawSc.names.lookup (Str.ofString "word") = some .local := by decide +kernel
theorem lk_len : lawSc.names.lookup (Str.ofString "len") = some .globalImplicit := by decide +kernel
theorem lk_min : lawSc.names.lookup (Str.ofString "min") = some .globalImplicit := by decide +kernel
theorem lk_max : lawSc.names.lookup (Str.ofString "max") = some .globalImplicit := by decide +kernel
theorem lk_range : lawSc.names.lookup (Str.ofString "range") = some .globalImplicit := by decide +kernel
theorem d_words : (Str.ofString "words" == ("__debug__" : Str)) = false := by decide +kernel
theorem d_place : (Str.ofString "place" == ("__debug__" : Str)) = false := by decide +kernel
theorem d_word : (Str.ofString "word" == ("__debug__" : Str)) = false := by decide +kernel
theorem d_sizesL : (Str.ofString "sizes" == ("__debug__" : Str)) = false := by decide +kernel
/-- a list of two short words -/
noncomputable def WObj (o : Obj) (ls : List (List Nat)) : Prop := o.cls = .type "list" ∧ ∃ ws n, o.data = .seq (List.toArray ws) n ∧ StrsAre ws (ls.map txS) ∧ ls.length = 2 ∧ ∀ x ∈ ls, x.length ≤ 24
/-- what the law's frame holds while the words are built -/
structure Lw (hb : Heap) (L sl : Addr) (vs : List Value) (ns : List Int) (W : Addr) (m : Str → Option Value) (rest : List (Addr × Obj)) (oc : Obj) (P : Addr) (pv : List Value) (S : Addr) (sv : List Value) (szs : List Int) : Prop where
  sc : m (Str.ofString "script") = some (.ref sl)
  hsl : hb.IsList sl vs.toArray
  hi : IntsAre vs ns
  hz : ns.length ≤ 63
  ms : m (Str.ofString "sizes") = some (.ref S)
  mw : m (Str.ofString "words") = some (.ref W)
  hc : (L + 1, oc) ∈ rest
  dc : oc.data = .cell (some (.ref P))
  hP : (P, listObj pv) ∈ rest
  sP : StrsAre pv (pcs.map txS)
  hS : (S, LCg.lst sv) ∈ rest
  iS : IntsAre sv szs
  kS : SzsOk ns.length szs
  off : ∀ p ∈ rest, p.1 ≠ W
theorem ne_place : Str.ofString "script" ≠ Str.ofString "place" ∧ Str.ofString "sizes" ≠ Str.ofString "place" ∧ Str.ofString "words" ≠ Str.ofString "place" := by decide +kernel
theorem ne_word : Str.ofString "script" ≠ Str.ofString "word" ∧ Str.ofString "sizes" ≠ Str.ofString "word" ∧ Str.ofString "words" ≠ Str.ofString "word" := by decide +kernel
theorem ne_pw : Str.ofString "place" ≠ Str.ofString "word" := by decide +kernel
section
variable {w : World} {hb : Heap} {L sl : Addr} {s : Shared} {mean : ExcName → Option Value} {mg mb : Str → Option Value} {A : Around} {E : Value → Shared → Prop} {fa : Addr} {cd : Value} {m : Str → Option Value} {rest : List (Addr × Obj)}
  {vs : List Value} {ns : List Int} {W : Addr} {oc : Obj} {P : Addr} {pv : List Value} {S : Addr} {sv : List Value} {szs : List Int}
theorem Lw.set {x : Str} {v : Value} (H : Lw hb L sl vs ns W m rest oc P pv S sv szs) (hx : Str.ofString "script" ≠ x ∧ Str.ofString "sizes" ≠ x ∧ Str.ofString "words" ≠ x) :
    Lw hb L sl vs ns W (fun y => if y = x then some v else m y) rest oc P pv S sv szs :=
  { H with sc := by show (if _ = x then _ else _) = _; rw [if_neg hx.1]; exact H.sc, ms := by show (if _ = x then _ else _) = _; rw [if_neg hx.2.1]; exact H.ms, mw := by show (if _ = x then _ else _) = _; rw [if_neg hx.2.2]; exact H.mw }
theorem str_at {ws : List Value} {ls : List (List Nat)} {i : Nat} {x : List Nat} (h : StrsAre ws (ls.map txS)) (e : ls[i]? = some x) : ∃ t, ws[i]? = some (.str (txS x) t) :=
  h.at (j := i) (y := txS x) (by rw [List.getElem?_map, e]; rfl)
theorem strs_set {x : List Nat} {t : Tok} : ∀ {ws : List Value} {ls : List (List Nat)} (i : Nat), StrsAre ws (ls.map txS) → StrsAre (ws.set i (.str (txS x) t)) ((ls.set i x).map txS)
  | [], [], _, _ => .nil
  | _ :: _, [], _, h => nomatch h
  | [], _ :: _, _, h => nomatch h
  | _ :: _, _ :: _, 0, .cons _ _ h => .cons _ _ h
  | _ :: _, _ :: _, i + 1, .cons y t h => .cons y t (strs_set i h)
theorem fmod2 (p : Nat) : Int.fmod (p : Int) 2 = ((p % 2 : Nat) : Int) := by
  rw [Int.fmod_eq_emod_of_nonneg _ (by decide)]; omega
/-- one turn of the loop -/
theorem law_turn {I : Addr} {oI o : Obj} {ls : List (List Nat)} {p : Nat} {tp : Tok} {Q : Flow → Shared → Prop} {body : List Stmt} {tgt it : Expr} {pos : Pos} (hbody : lawS 3 = .For tgt it body [] pos) (F : Fr hb L s.heap m) (N : News hb L s.heap ((I, oI) :: (W, o) :: rest)) (X : (KF w.params).In hb) (hh : A.handled = none)
    (T : Top qv (looseW qv lv) mean mg mb hb) (H : Lw hb L sl vs ns W m rest oc P pv S sv szs) (hW : WObj o ls) (hIW : I ≠ W) (hp : m (Str.ofString "place") = some (.int p tp)) (hpn : p < ns.length) (hpc : p < 48)
    (h : ∀ m' h' tk o' ls', Fr hb L h' m' → News hb L h' ((I, oI) :: (W, o') :: rest) → Lw hb L sl vs ns W m' rest oc P pv S sv szs → WObj o' ls' → Q .next { s with heap := h', toks := tk }) :
    wpAny (model pw w) A (execs body (lawE L fa cd)) Q E s := by
  obtain ⟨hWc, ws, nW, dW, sW, zW, bW⟩ := hW
  have hWl : ∀ {h : Heap}, News hb L h ((I, oI) :: (W, o) :: rest) → h.IsList W ws.toArray := fun N => ⟨o, (N _ (List.mem_cons_of_mem _ List.mem_cons_self)).1, hWc, nW, dW⟩
  have inn : ∀ q ∈ rest, q ∈ (I, oI) :: (W, o) :: rest := fun q hq => List.mem_cons_of_mem _ (List.mem_cons_of_mem _ hq)
  have k2 : p % 2 < 2 := Nat.mod_lt _ (by decide)
  obtain ⟨w0, hw0⟩ : ∃ x, ls[p % 2]? = some x := ⟨_, List.getElem?_eq_getElem (by rw [zW]; exact k2)⟩
  obtain ⟨t0, ht0⟩ := str_at sW hw0
  have b0 := bW w0 (List.mem_of_getElem? hw0)
  obtain ⟨n0, hn0⟩ : ∃ x, ns[p]? = some x := ⟨_, List.getElem?_eq_getElem hpn⟩
  obtain ⟨tn, htn⟩ := ints_at H.hi hn0
  generalize hkk : Int.fmod n0 115 = k
  have k0 : 0 ≤ k := by rw [← hkk]; exact Int.fmod_nonneg_of_pos _ (by decide)
  have k1 : k < 115 := by rw [← hkk]; exact Int.fmod_lt_of_pos _ (by decide)
  obtain ⟨pc, hpcs⟩ : ∃ x, pcs[k.toNat]? = some x := ⟨_, List.getElem?_eq_getElem (by rw [pcs_len]; omega)⟩
  obtain ⟨tq, htq⟩ := str_at H.sP hpcs
  have bp := pcs_le pc (List.mem_of_getElem? hpcs)
  obtain ⟨zn, hzn⟩ : ∃ x, szs[p % 2]? = some x := ⟨_, List.getElem?_eq_getElem (by rw [H.kS.1]; omega)⟩
  obtain ⟨tz, htz⟩ := ints_at H.iS hzn
  have bz := H.kS.2 zn (List.mem_of_getElem? hzn)
  have zpv : pv.length = 115 := by rw [H.sP.len_eq, List.length_map, pcs_len]
  have tn2 : ((p % 2 : Nat) : Int).toNat = p % 2 := by omega
  have c2 : ((p % 2 : Nat) : Int) < 2 ^ 63 := by omega
  injection hbody with e1 e2 e3
  subst e3
  refine wpAny_execs_cons (wpAny_Assign_Name (wpAny_BinOp ?_))
  -- words[place % 2]
  refine Subscript_ (nameX_L F H.mw ?_ law_kind lk_words d_words)
  refine wpAny_BinOp (nameX_L F hp (wpAny_Constant_int ?_) law_kind lk_place d_place)
  refine mod_int' (by decide) ?_
  rw [fmod2]
  refine item_listL (s := { s with toks := s.toks + 1 + 1 }) (hWl N) (Int.natCast_nonneg _) c2 (by rw [tn2]; exact ht0) ?_ (by rfl) (by intro _; rfl)
  -- pieces[script[place] % len(pieces)]
  refine Subscript_ (nameX_C (s := { s with toks := s.toks + 1 + 1 }) N rfl (inn _ H.hc) H.dc ?_ law_kind lk_pieces d_pieces)
  refine wpAny_BinOp (Subscript_ (nameX_L (s := { s with toks := s.toks + 1 + 1 }) F H.sc (nameX_L (s := { s with toks := s.toks + 1 + 1 }) F hp ?_ law_kind lk_place d_place) law_kind lk_script d_script))
  refine item_listL (s := { s with toks := s.toks + 1 + 1 }) (F.lst H.hsl) (Int.natCast_nonneg _) (by omega) (by rw [Int.toNat_natCast]; exact htn) ?_ (by rfl) (by intro _; rfl)
  refine Call_Name1 (nameX_B (s := { s with toks := s.toks + 1 + 1 }) F X (topRead_of T) (k_len _) b_len (by decide) ?_ law_kind lk_len dbg_len) rfl
  refine PySem.callWith_builtin1 (nameX_C (s := { s with toks := s.toks + 1 + 1 }) N rfl (inn _ H.hc) H.dc ?_ law_kind lk_pieces d_pieces)
  refine PyProof.Rows.len_list (s := { s with toks := s.toks + 1 + 1 }) (IsL.isList (N _ (inn _ H.hP)).1) (by rw [List.size_toArray, zpv]; decide) ?_
  rw [List.size_toArray, zpv]
  refine mod_int' (by decide) ?_
  rw [show Int.fmod n0 ((115 : Nat) : Int) = k from hkk]
  refine item_listL (s := { s with toks := s.toks + 1 + 1 + 1 + 1 + 1 }) (IsL.isList (N _ (inn _ H.hP)).1) k0 (by omega) htq ?_ (by rfl) (by intro _; rfl)
  refine PyProof.Rows.add_str (fun t' tk => ?_) (by rw [tx_len, tx_len]; unfold sizeLine; omega)
  rw [tx_app]
  -- word = ..
  refine storeX_L (s := { s with toks := tk }) F N (fun h1 F1 N1 => ?_) law_kind lk_word
  have H1 := H.set (v := .str (txS (w0 ++ pc)) t') ne_word
  have hp1 : (fun y => if y = Str.ofString "word" then some (Value.str (txS (w0 ++ pc)) t') else m y) (Str.ofString "place") = some (.int p tp) := by show (if _ = _ then _ else _) = _; rw [if_neg ne_pw]; exact hp
  have hw1 : (fun y => if y = Str.ofString "word" then some (Value.str (txS (w0 ++ pc)) t') else m y) (Str.ofString "word") = some (Value.str (txS (w0 ++ pc)) t') := if_pos rfl
  generalize (fun y => if y = Str.ofString "word" then some (Value.str (txS (w0 ++ pc)) t') else m y) = m1 at F1 H1 hp1 hw1
  have zw : (txS (w0 ++ pc)).length = w0.length + pc.length := by rw [tx_len, List.length_append]
  -- words[place % 2] = ..
  refine wpAny_execs_cons (wpAny_Assign_Subscript (Subscript_ (nameX_L F1 hw1 ?_ law_kind lk_word d_word)))
  refine wpAny_Slice (evalPart_some_step ?_)
  refine Call_Name2 (nameX_B (s := { s with heap := h1, toks := tk + 1 }) F1 X (topRead_of T) (k_max _) b_max (by decide) ?_ law_kind lk_max dbg_max) rfl
  refine callWith_b2 (wpAny_Constant_int (wpAny_BinOp ?_))
  refine Call_Name1 (nameX_B (s := { s with heap := h1, toks := tk + 1 + 1 }) F1 X (topRead_of T) (k_len _) b_len (by decide) ?_ law_kind lk_len dbg_len) rfl
  refine PySem.callWith_builtin1 (nameX_L (s := { s with heap := h1, toks := tk + 1 + 1 }) F1 hw1 ?_ law_kind lk_word d_word)
  refine PyProof.Rows.len_str (by rw [zw]; omega) ?_
  refine Subscript_ (nameX_L F1 H1.ms ?_ law_kind lk_sizes d_sizesL)
  refine wpAny_BinOp (nameX_L F1 hp1 (wpAny_Constant_int ?_) law_kind lk_place d_place)
  refine mod_int' (by decide) ?_
  rw [fmod2]
  refine item_listL (hs := by rfl) (hg := by intro _; rfl) (IsL.isList (N1 _ (inn _ H1.hS)).1) (Int.natCast_nonneg _) c2 (by rw [tn2]; exact htz) ?_
  refine PyProof.Rows.sub_int ?_
  refine max_two_N hh F1 N1 fun h2 tk2 F2 N2 => ?_
  refine evalPart_none_step (evalPart_none_step ?_)
  refine slice_strN_sn F2 N2 (fun h3 t3 tk3 F3 N3 => ?_) (by rfl) (fun r => go_str _ _ _ r) (by rw [zw]; unfold sizeLine; omega)
  generalize hkc : (if (((txS (w0 ++ pc)).length : Nat) : Int) - zn > 0 then (((txS (w0 ++ pc)).length : Nat) : Int) - zn else 0) = c
  have c0 : 0 ≤ c := by rw [← hkc]; split <;> omega
  have c1 : (((txS (w0 ++ pc)).length : Nat) : Int) - zn ≤ c := by rw [← hkc]; split <;> omega
  rw [tx_from c0]
  have zd : ((w0 ++ pc).drop c.toNat).length ≤ 24 := by rw [List.length_drop, List.length_append]; rw [zw] at c1; omega
  refine nameX_L (s := { s with heap := h3, toks := tk3 }) F3 H1.mw ?_ law_kind lk_words d_words
  refine wpAny_BinOp (nameX_L F3 hp1 (wpAny_Constant_int ?_) law_kind lk_place d_place)
  refine mod_int' (by decide) ?_
  rw [fmod2]
  refine wpAny_setItem_list (hWl N3) (Int.natCast_nonneg _) c2 (by rw [List.size_toArray, sW.len_eq, List.length_map, zW]; omega) fun h4 hl4 hs4 => ?_
  refine wpAny_execs_nil ?_
  obtain ⟨o4, ho4, hc4, n4, hd4⟩ := hl4
  have hWn := N3 _ (List.mem_cons_of_mem _ List.mem_cons_self)
  have N4 : News hb L h4 ((I, oI) :: (W, o4) :: rest) := News.setAt (own := [(I, oI)]) N3 (fun q hq => by rw [List.mem_singleton.mp hq]; exact hIW) H1.off hs4 ho4
  refine h m1 h4 _ o4 (ls.set (p % 2) ((w0 ++ pc).drop c.toNat)) ⟨F3.ns.sameBut hs4 (Ne.symm hWn.2.1), fun b ob e => (hs4.2 b fun q => ?_).trans (F3.keep b ob e), F3.above⟩ N4 H1 ⟨hc4, ws.set (p % 2) (.str (txS ((w0 ++ pc).drop c.toNat)) t3), n4, ?_, strs_set (p % 2) sW, by simpa using zW, fun x hx => ?_⟩
  · have := hWn.2.2
    rw [show (W, o).1 = W from rfl, ← q, e] at this
    cases this
  · rw [hd4, tn2]
    simp
  · rcases List.mem_or_eq_of_mem_set hx with q | q
    · exact bW x q
    · rw [q]; exact zd
end
end DaWalk
open PySem PySem.W PyProof.Rows DaHead
set_option Elab.async false
set_option linter.unusedVariables false
set_option linter.constructorNameAsVariable false
set_option maxRecDepth 100000
namespace DaWalk
section
variable {w : World} {hb : Heap} {L sl : Addr} {s : Shared} {mean : ExcName → Option Value} {mg mb : Str → Option Value} {A : Around} {E : Value → Shared → Prop} {fa : Addr} {cd : Value} {m : Str → Option Value} {rest : List (Addr × Obj)}
  {vs : List Value} {ns : List Int} {W : Addr} {oc : Obj} {P : Addr} {pv : List Value} {S : Addr} {sv : List Value} {szs : List Int}
theorem shared_eta (s : Shared) : s = { s with heap := s.heap, toks := s.toks } := rfl
theorem push_two {h : Heap} {o1 o2 : Obj} {news : List (Addr × Obj)} (F1 : Fr hb L h m) (N1 : News hb L h news) (hf : o2.isFreed = false) :
    Fr hb L ((h.push o1).push o2) m ∧ News hb L ((h.push o1).push o2) (((h.push o1).objs.size, o2) :: news) ∧ (∀ p ∈ news, p.1 ≠ (h.push o1).objs.size) := by
  have N2 : News hb L (h.push o1) news := N1.grown fun _ _ e => Heap.get?_push_of_some _ e
  exact ⟨(F1.push o1).push o2, News.push (F1.push o1) N2 o2 hf, fun p hp => Nat.ne_of_lt (Heap.lt_size (N2 p hp).1)⟩
theorem law_for {np : Pos} {body : List Stmt} {n0 : Nat} {E : Value → Shared → Prop} {Q : Flow → Shared → Prop} {I : Addr}
    (turn : ∀ {s : Shared} {m : Str → Option Value} {E : Value → Shared → Prop} {oI o : Obj} {ls : List (List Nat)} {p : Nat} {tp : Tok} {Q : Flow → Shared → Prop}, Fr hb L s.heap m → News hb L s.heap ((I, oI) :: (W, o) :: rest) → (KF w.params).In hb → A.handled = none →
      Top qv (looseW qv lv) mean mg mb hb → Lw hb L sl vs ns W m rest oc P pv S sv szs → WObj o ls → I ≠ W → m (Str.ofString "place") = some (.int p tp) → p < ns.length → p < 48 →
      (∀ m' h' tk o' ls', Fr hb L h' m' → News hb L h' ((I, oI) :: (W, o') :: rest) → Lw hb L sl vs ns W m' rest oc P pv S sv szs → WObj o' ls' → Q .next { s with heap := h', toks := tk }) → wpAny (model pw w) A (execs body (lawE L fa cd)) Q E s)
    (X : (KF w.params).In hb) (hh : A.handled = none) (T : Top qv (looseW qv lv) mean mg mb hb) (h48 : n0 ≤ 48) (hns : n0 ≤ ns.length)
    (h : ∀ m' h' tk o' ls', Fr hb L h' m' → News hb L h' ((W, o') :: rest) → Lw hb L sl vs ns W m' rest oc P pv S sv szs → WObj o' ls' → Q .next { s with heap := h', toks := tk }) :
    ∀ (x k : Nat) {h₁ : Heap} {tk : Nat} {o : Obj} {ls : List (List Nat)} {m : Str → Option Value}, Fr hb L h₁ m → News hb L h₁ ((I, robj x k 1) :: (W, o) :: rest) → Lw hb L sl vs ns W m rest oc P pv S sv szs → WObj o ls → (∀ p ∈ (W, o) :: rest, p.1 ≠ I) → x + k = n0 →
      codeAny (model pw w) A (.forLoop (.Name (Str.ofString "place") np) (.ref I) body [] (lawE L fa cd)) (LoopR w A (lawE L fa cd) E Q) { s with heap := h₁, toks := tk } := by
  intro x k h₁ tk o ls m F N H hW hoff hx
  refine codeAny_forLoop (fun j s' => ∃ (x : Nat) (h₁ : Heap) (tk : Nat) (o : Obj) (ls : List (List Nat)) (m : Str → Option Value), s' = { s with heap := h₁, toks := tk } ∧ Fr hb L h₁ m ∧ News hb L h₁ ((I, robj x j 1) :: (W, o) :: rest) ∧ Lw hb L sl vs ns W m rest oc P pv S sv szs ∧ WObj o ls ∧
    (∀ p ∈ (W, o) :: rest, p.1 ≠ I) ∧ x + j = n0) (fun j s' hJ => ?_) k ⟨x, h₁, tk, o, ls, m, rfl, F, N, H, hW, hoff, hx⟩
  obtain ⟨x', h', tk', o', ls', m', rfl, F', N', H', hW', hoff', hx'⟩ := hJ
  have hit : IsRangeIter h' I x' j 1 := (N' _ List.mem_cons_self).1
  have hI := N' (I, robj x' j 1) List.mem_cons_self
  have hIW : I ≠ W := Ne.symm (hoff' (W, o') List.mem_cons_self)
  cases j with
  | zero =>
    refine wpAny_pyNext_range_end hh hit (by omega) fun h₂ he₂ => wpAny_execs_nil (h m' h₂ tk' o' ls' ⟨F'.ns.extBut he₂ (Ne.symm hI.2.1), fun b ob e => he₂ b ob (fun q => ?_) (F'.keep b ob e), F'.above⟩ (fun p hp => ?_) H' hW')
    · have := hI.2.2
      rw [show (I, robj x' (0 : Nat) 1).1 = I from rfl, ← q, e] at this
      cases this
    · have := N' p (List.mem_cons_of_mem _ hp)
      exact ⟨he₂ _ _ (hoff' p hp) this.1, this.2⟩
  | succ j =>
    refine wpAny_pyNext_range_item hit (by omega) fun h₂ hit₂ hs₂ => ?_
    have e1 : ((j + 1 : Nat) : Int) - 1 = (j : Int) := by omega
    rw [e1] at hit₂
    have F₂ : Fr hb L h₂ m' := ⟨F'.ns.sameBut hs₂ (Ne.symm hI.2.1), fun b ob e => (hs₂.2 b fun q => by have := hI.2.2; rw [show (I, robj x' ((j + 1 : Nat) : Int) 1).1 = I from rfl, ← q, e] at this; cases this).trans (F'.keep b ob e), F'.above⟩
    have N₂ : News hb L h₂ ((I, robj ((x' : Int) + 1) j 1) :: (W, o') :: rest) := News.setAt (own := []) N' (fun q hq => nomatch hq) hoff' hs₂ hit₂
    refine wpAny_assign_Name (storeX_L F₂ N₂ (fun h₃ F₃ N₃ => ?_) law_kind lk_place)
    refine turn (s := { s with heap := h₃, toks := tk' + 1 + 1 }) F₃ N₃ X hh T (H'.set ne_place) hW' hIW (if_pos rfl) (by omega) (by omega) fun m'' h'' tk'' o'' ls'' F'' N'' H'' hW'' => ?_
    refine ⟨j, Nat.lt_succ_self j, x' + 1, h'', tk'', o'', ls'', m'', rfl, F'', ?_, H'', hW'', fun p hp => ?_, by omega⟩
    · rw [Int.natCast_add]; exact N''
    · rcases List.mem_cons.mp hp with rfl | hp
      · exact Ne.symm hIW
      · exact hoff' p (List.mem_cons_of_mem _ hp)
theorem law_loop {o : Obj} {ls : List (List Nat)} {Q : Flow → Shared → Prop} (F : Fr hb L s.heap m) (N : News hb L s.heap ((W, o) :: rest)) (X : (KF w.params).In hb) (hh : A.handled = none)
    (T : Top qv (looseW qv lv) mean mg mb hb) (H : Lw hb L sl vs ns W m rest oc P pv S sv szs) (hW : WObj o ls)
    (h : ∀ m' h' tk o' ls', Fr hb L h' m' → News hb L h' ((W, o') :: rest) → Lw hb L sl vs ns W m' rest oc P pv S sv szs → WObj o' ls' → Q .next { s with heap := h', toks := tk }) :
    wpAny (model pw w) A (exec (lawS 3) (lawE L fa cd)) Q E s := by
  obtain ⟨tgt, it, body, pos, e3⟩ : ∃ tgt it body pos, lawS 3 = .For tgt it body [] pos := ⟨_, _, _, _, rfl⟩
  have turn := fun {s : Shared} {m : Str → Option Value} {E : Value → Shared → Prop} {I : Addr} {oI o : Obj} {ls : List (List Nat)} {p : Nat} {tp : Tok} {Q : Flow → Shared → Prop} => law_turn (w := w) (hb := hb) (L := L) (sl := sl) (s := s) (mean := mean) (mg := mg) (mb := mb) (A := A) (E := E) (fa := fa) (cd := cd) (m := m) (rest := rest) (vs := vs) (ns := ns) (W := W) (oc := oc) (P := P) (pv := pv) (S := S) (sv := sv) (szs := szs) (I := I) (oI := oI) (o := o) (ls := ls) (p := p) (tp := tp) (Q := Q) (body := body) e3
  obtain ⟨np, ht⟩ : ∃ np, tgt = .Name (Str.ofString "place") np := by
    have : (match lawS 3 with | .For t _ _ _ _ => (match t with | .Name x _ => x == Str.ofString "place" | _ => false) | _ => false) = true := by decide +kernel
    rw [e3] at this
    dsimp only at this
    split at this
    · rename_i x p; exact ⟨p, by rw [beq_iff_eq.mp this]⟩
    · cases this
  obtain ⟨a1, a2, a3, a4, a5, a6, a7, a8, hi⟩ : ∃ a1 a2 a3 a4 a5 a6 a7 a8, it = .Call (.Name (Str.ofString "range") a1) [.Call (.Name (Str.ofString "min") a2) [.Call (.Name (Str.ofString "len") a3) [.Name (Str.ofString "script") a4] [] a5, .Constant (.int 48) 0 a6] [] a7] [] a8 := by
    injection e3 with _ e
    exact ⟨_, _, _, _, _, _, _, _, e.symm.trans rfl⟩
  rw [e3]
  subst ht hi
  have hl := H.hi.length
  refine wpAny_For ?_ (by intro _; rfl)
  refine Call_ (nameX_B F X (topRead_of T) (k_range _) b_range (by decide) ?_ law_kind lk_range dbg_range)
  refine Pv.callWith_type1 (args_cons ?_ rfl) rfl rfl
  refine Call_Name2 (nameX_B F X (topRead_of T) (k_min _) b_min (by decide) ?_ law_kind lk_min dbg_min) rfl
  refine callWith_b2 ?_
  refine Call_Name1 (nameX_B F X (topRead_of T) (k_len _) b_len (by decide) ?_ law_kind lk_len dbg_len) rfl
  refine PySem.callWith_builtin1 (nameX_L F H.sc ?_ law_kind lk_script d_script)
  refine PyProof.Rows.len_list (F.lst H.hsl) (by rw [List.size_toArray, hl]; have := H.hz; omega) ?_
  rw [List.size_toArray, hl]
  refine wpAny_Constant_int ?_
  refine min_two_N hh F N fun h1 tk1 F1 N1 => ?_
  refine args_nil ?_
  obtain ⟨n0, hn0, hn1, hn2⟩ : ∃ n0 : Nat, (if (48 : Int) < ((ns.length : Nat) : Int) then (48 : Int) else ((ns.length : Nat) : Int)) = (n0 : Int) ∧ n0 ≤ 48 ∧ n0 ≤ ns.length := by
    split
    · exact ⟨48, rfl, by omega, by omega⟩
    · exact ⟨ns.length, rfl, by omega, by omega⟩
  rw [hn0]
  refine call_range_1 ?_
  refine wpAny_pyIter_range (IsRange.new ..) (small_up (by omega) (by omega)) ?_
  rw [size_up]
  obtain ⟨F3, N3, O3⟩ := push_two (o1 := { cls := .type "range", data := .fields #[.int 0 tk1, .int (n0 : Int) _, .int 1 (tk1 + 1)] }) (o2 := robj 0 (((n0 : Int).toNat : Nat) : Int) 1) F1 N1 rfl
  exact law_for (fun F N X hh T H hW hIW hp hpn hpc h => turn F N X hh T H hW hIW hp hpn hpc h) X hh T hn1 hn2 h 0 n0 F3 N3 H hW O3 (by omega)
end
end DaWalk
open PySem PySem.W PyProof.Rows DaHead
set_option Elab.async false
set_option linter.unusedVariables false
set_option linter.constructorNameAsVariable false
set_option maxRecDepth 100000
namespace DaWalk
theorem ne_si : Str.ofString "script" ≠ Str.ofString "sizes" ∧ Str.ofString "script" ≠ Str.ofString "words" ∧ Str.ofString "sizes" ≠ Str.ofString "words" := by decide +kernel
section
variable {w : World} {hb : Heap} {L sl : Addr} {s : Shared} {mean : ExcName → Option Value} {mg mb : Str → Option Value} {A : Around} {E : Value → Shared → Prop} {fa : Addr} {cd : Value} {m : Str → Option Value}
  {vs : List Value} {ns : List Int}
/-- the first four statements -/
theorem law_words {oc : Obj} {Q : Flow → Shared → Prop} {r : List Stmt} (F : Fr hb L s.heap m) (N : News hb L s.heap [(L + 1, oc)]) (dc : oc.data = .cell none) (X : (KF w.params).In hb) (hh : A.handled = none)
    (T : Top qv (looseW qv lv) mean mg mb hb) (hr : Pylong w A hb) (hsc : m (Str.ofString "script") = some (.ref sl)) (hsl : hb.IsList sl vs.toArray) (hi : IntsAre vs ns) (hz : ns.length ≤ 63)
    (h : ∀ m' h' tk W o ls rest oc P pv S sv szs, Fr hb L h' m' → News hb L h' ((W, o) :: rest) → Lw hb L sl vs ns W m' rest oc P pv S sv szs → WObj o ls → (∀ p ∈ (W, o) :: rest, TI.notDict p = true) →
      wpAny (model pw w) A (execs r (lawE L fa cd)) Q E { s with heap := h', toks := tk }) :
    wpAny (model pw w) A (execs (lawS 0 :: lawS 1 :: lawS 2 :: lawS 3 :: r) (lawE L fa cd)) Q E s := by
  refine wpAny_execs_cons ?_
  refine wpAny_Assign_Name (law_pieces F N X T fun P pv h1 F1 N1 hne sP => ?_)
  refine storeX_C (s := { s with heap := h1 }) F1 N1 rfl (.tail (Ne.symm (hne _ List.mem_cons_self)) (.head fun _ hp => nomatch hp)) dc (fun h2 o2 F2 N2 d2 => ?_) law_kind lk_pieces
  have zpv : pv.length = 115 := by rw [sP.len_eq, List.length_map, pcs_len]
  refine wpAny_execs_cons (law_sizes (s := { s with heap := h2 }) F2 N2 X hh T hr (List.mem_cons_of_mem _ List.mem_cons_self) d2 List.mem_cons_self zpv hsc hsl hi hz fun S sv szs h3 tk3 F3 N3 o3 iS kS => ?_)
  refine wpAny_execs_cons ?_
  refine wpAny_Assign_Name (List_ (args_cons (wpAny_Constant_str (args_cons (wpAny_Constant_str (args_nil ?_)) rfl)) rfl))
  refine newList_N (s := { s with heap := h3, toks := _ }) F3 N3 (fun h4 F4 N4 => ?_) (by unfold sizeLine; simp)
  have o4 : ∀ p ∈ [(S, LCg.lst sv), (P, listObj pv), (L + 1, o2)], p.1 ≠ h3.objs.size := fun p hp => Nat.ne_of_lt (Heap.lt_size (N3 p hp).1)
  refine storeX_L (s := { s with heap := h4, toks := _ }) F4 N4 (fun h5 F5 N5 => ?_) law_kind lk_words
  refine wpAny_execs_cons (law_loop (s := { s with heap := h5, toks := _ }) (ls := [[], []]) (oc := o2) (P := P) (pv := pv) (S := S) (sv := sv) (szs := szs) F5 N5 X hh T
    { sc := ?_, hsl := hsl, hi := hi, hz := hz, ms := ?_, mw := if_pos rfl, hc := List.mem_cons_of_mem _ (List.mem_cons_of_mem _ List.mem_cons_self), dc := d2, hP := List.mem_cons_of_mem _ List.mem_cons_self, sP := sP, hS := List.mem_cons_self, iS := iS, kS := kS, off := o4 }
    ⟨rfl, _, _, rfl, .cons _ _ (.cons _ _ .nil), rfl, fun x hx => ?_⟩ fun m' h' tk o' ls' F' N' H' hW' => ?_)
  · show (if _ then _ else if _ then _ else _) = _
    rw [if_neg ne_si.2.1, if_neg ne_si.1]; exact hsc
  · show (if _ then _ else if _ then _ else _) = _
    rw [if_neg ne_si.2.2, if_pos rfl]
  · rcases List.mem_cons.mp hx with rfl | hx
    · simp
    · rw [List.mem_singleton.mp hx]; simp
  · refine h m' h' tk _ o' ls' _ o2 P pv S sv szs F' N' H' hW' fun p hp => ?_
    rcases List.mem_cons.mp hp with rfl | hp
    · obtain ⟨_, ws, n, d, _⟩ := hW'
      unfold TI.notDict; rw [d]
    · rcases List.mem_cons.mp hp with rfl | hp
      · rfl
      · rcases List.mem_cons.mp hp with rfl | hp
        · rfl
        · rw [List.mem_singleton.mp hp]
          unfold TI.notDict; rw [d2]
end
end DaWalk
open PySem PySem.W PyProof.Rows DaHead
set_option Elab.async false
set_option linter.unusedVariables false
set_option linter.constructorNameAsVariable false
set_option maxRecDepth 100000
namespace DaWalk
theorem lk_first : lawSc.names.lookup (Str.ofString "first") = some .local := by decide +kernel
theorem lk_second : lawSc.names.lookup (Str.ofString "second") = some .local := by decide +kernel
theorem lk_stem : lawSc.names.lookup (nm .lStem) = some .globalImplicit := by decide +kernel
theorem d_first : (Str.ofString "first" == ("__debug__" : Str)) = false := by decide +kernel
theorem d_second : (Str.ofString "second" == ("__debug__" : Str)) = false := by decide +kernel
theorem ne_fs : Str.ofString "words" ≠ Str.ofString "first" ∧ Str.ofString "words" ≠ Str.ofString "second" ∧ Str.ofString "second" ≠ Str.ofString "first" := by decide +kernel
section
variable {w : World} {hb : Heap} {me : Option (Addr × Addr)} {L sl : Addr} {s : Shared} {mean : ExcName → Option Value} {mg mb : Str → Option Value} {A : Around} {E : Value → Shared → Prop} {fa : Addr} {cd : Value} {m : Str → Option Value} {kp : List (Addr × Obj)}
  {vs : List Value} {ns : List Int} {fl fl' : Fl}
theorem Hp.intro0 {h : Heap} (F : Fr hb L h m) (N : News hb L h kp) : Hp w hb none L [] kp m none h := by
  refine ⟨[], 0, [], F, fun p hp => ?_, TI.SameUp.refl [], rfl⟩
  rcases List.mem_append.mp hp with h1 | h1
  · exact nomatch h1
  · rcases List.mem_append.mp h1 with h1 | h1
    · exact N p h1
    · exact nomatch h1
theorem Hp.elim0 {h : Heap} (H : Hp w hb none L [] kp m none h) : Fr hb L h m ∧ News hb L h kp := by
  obtain ⟨es, n, frs, F, N, S, O⟩ := H
  exact ⟨F, fun p hp => N p (List.mem_append_right _ (List.mem_append_left _ hp))⟩
/-- a def's call out of the law's frame -/
theorem law_call {f : Nm} {args : List MV} {vals : List Value} {r : MV} {k : Nat} {Q : Value → Shared → Prop} (C : Cx w hb me [] kp mean mg mb A) (hF : Fx A (lawE L fa cd) [] L [] (k + 1)) (H : Hp w hb me L [] kp m fl s.heap)
    (h : orc tb k f args fl = some (r, fl')) (ha : ArgsAre w me vals args) (hq : ∀ y h' tk, Rep w me y r → Hp w hb me L [] kp m fl' h' → Q y { s with heap := h', toks := tk }) : wpAny (model pw w) A (call (.ref (fnAt f)) (withSelf me f vals)) Q E s :=
  wpAny_call (orcOk_of w hb me mean mg mb k f args fl r fl' h A L [] kp m s _ [] vals _ C hF H ha fun y h' tk hr H' => hq y h' tk hr H')
theorem words_at {W : Addr} {o : Obj} {ls : List (List Nat)} {i : Nat} {x : List Nat} {h : Heap} (N : h.get? W = some o) (hW : WObj o ls) (e : ls[i]? = some x) : ∃ ws t, h.IsList W (List.toArray ws) ∧ ws[i]? = some (.str (txS x) t) ∧ x.length ≤ 24 := by
  obtain ⟨c, ws, n, d, sW, z, b⟩ := hW
  obtain ⟨t, ht⟩ := str_at sW e
  exact ⟨ws, t, ⟨o, N, c, n, d⟩, ht, b x (List.mem_of_getElem? e)⟩
/-- words[i] as the law's frame reads it -/
theorem law_word {W : Addr} {o : Obj} {ls : List (List Nat)} {i : Nat} {x : List Nat} {p1 p2 p3 : Pos} {k0 : Nat} {Q : Value → Shared → Prop} (F : Fr hb L s.heap m) (N : s.heap.get? W = some o) (hW : WObj o ls) (hm : m (Str.ofString "words") = some (.ref W)) (e : ls[i]? = some x)
    (h : ∀ t, Q (.str (txS x) t) { s with toks := s.toks + 1 }) : wpAny (model pw w) A (eval (.Subscript (.Name (Str.ofString "words") p1) (.Constant (.int (i : Int)) k0 p2) p3) (lawE L fa cd)) Q E s := by
  obtain ⟨ws, t, hl, ht, _⟩ := words_at N hW e
  have hlen : i < 2 := by have := (List.getElem?_eq_some_iff.mp e).1; rw [hW.2.choose_spec.choose_spec.2.2.1] at this; exact this
  refine Subscript_ (nameX_L F hm (wpAny_Constant_int ?_) law_kind lk_words d_words)
  exact item_listL (s := { s with toks := s.toks + 1 }) hl (Int.natCast_nonneg _) (by omega) (by rw [Int.toNat_natCast]; exact ht) (h t) (by rfl) (by intro _; rfl)
theorem law_stems {W : Addr} {o : Obj} {w0 w1 : List Nat} {Q : Flow → Shared → Prop} {r : List Stmt} (C : Cx w hb none [] kp mean mg mb A) (hF : Fx A (lawE L fa cd) [] L [] 4) (F : Fr hb L s.heap m) (N : News hb L s.heap kp) (hWm : (W, o) ∈ kp) (hW : WObj o [w0, w1])
    (hm : m (Str.ofString "words") = some (.ref W))
    (h : ∀ m' h' tk t0 t1, Fr hb L h' m' → News hb L h' kp → m' (Str.ofString "words") = some (.ref W) → m' (Str.ofString "first") = some (.str (txS (stemL w0)) t0) → m' (Str.ofString "second") = some (.str (txS (stemL w1)) t1) →
      wpAny (model pw w) A (execs r (lawE L fa cd)) Q E { s with heap := h', toks := tk }) :
    wpAny (model pw w) A (execs (lawS 4 :: r) (lawE L fa cd)) Q E s := by
  have z0 : w0.length ≤ 24 := hW.2.choose_spec.choose_spec.2.2.2 w0 List.mem_cons_self
  have z1 : w1.length ≤ 24 := hW.2.choose_spec.choose_spec.2.2.2 w1 (List.mem_cons_of_mem _ List.mem_cons_self)
  refine wpAny_execs_cons (Assign_Tuple_swapped (names := [Str.ofString "first", Str.ofString "second"]) ?_ (by rfl) (by kernel_rfl))
  refine Tuple_ (args_cons ?_ rfl)
  refine Call_ (nameX_K F C.X (topRead_of C.T) (k_def _ .lStem rfl).1 ?_ law_kind lk_stem (nm_debug .lStem))
  refine callWith_K C.X (k_def _ .lStem rfl).2 (args_cons (law_word (i := 0) F (N _ hWm).1 hW hm rfl fun t => args_nil ⟨C.X.keeps F.keep, ?_⟩) rfl) rfl
  refine law_call (s := { s with toks := s.toks + 1 }) (f := .lStem) (k := 3) (vals := [.str (txS w0) t]) C hF (Hp.intro0 F N) (lStem_is w0 0 none (by omega)) (.cons ⟨by omega, t, rfl⟩ .nil) fun y h1 tk1 hy H1 => ?_
  obtain ⟨hz1, ty, rfl⟩ := hy
  obtain ⟨F1, N1⟩ := H1.elim0
  refine args_cons ?_ rfl
  refine Call_ (nameX_K (s := { s with heap := h1, toks := tk1 }) F1 C.X (topRead_of C.T) (k_def _ .lStem rfl).1 ?_ law_kind lk_stem (nm_debug .lStem))
  refine callWith_K C.X (k_def _ .lStem rfl).2 (args_cons (law_word (s := { s with heap := h1, toks := tk1 }) (i := 1) F1 (N1 _ hWm).1 hW hm rfl fun t => args_nil ⟨C.X.keeps F1.keep, ?_⟩) rfl) rfl
  refine law_call (s := { s with heap := h1, toks := tk1 + 1 }) (f := .lStem) (k := 3) (vals := [.str (txS w1) t]) C hF (Hp.intro0 F1 N1) (lStem_is w1 0 none (by omega)) (.cons ⟨by omega, t, rfl⟩ .nil) fun y h2 tk2 hy H2 => ?_
  obtain ⟨hz2, tz, rfl⟩ := hy
  obtain ⟨F2, N2⟩ := H2.elim0
  refine args_nil ?_
  refine newTuple_N (s := { s with heap := h2, toks := tk2 }) F2 N2 (fun h3 F3 N3 => ?_) (by unfold sizeLine; simp)
  have hT := (N3 _ List.mem_cons_self).1
  refine unpackItems_tuple (s := { s with heap := h3, toks := tk2 }) (items := [Value.str (txS (stemL w0)) ty, Value.str (txS (stemL w1)) tz].toArray) C.hh ⟨_, hT, rfl, _, rfl⟩ fun h4 he4 => ?_
  have F4 : Fr hb L h4 m := F3.extBut he4 (Nat.le_refl _)
  have N4 : News hb L h4 kp := fun p hp => by
    have := N3 p (List.mem_cons_of_mem _ hp)
    exact ⟨he4 _ _ (Nat.ne_of_lt (Heap.lt_size this.1)) this.1, this.2⟩
  show wpAny (model pw w) A (assignInOrder [bindName (lawE L fa cd) (Str.ofString "second"), bindName (lawE L fa cd) (Str.ofString "first")] [.str (txS (stemL w1)) tz, .str (txS (stemL w0)) ty]) _ E _
  refine assignInOrder_cons (bindName_ (storeX_L (s := { s with heap := h4, toks := tk2 }) F4 N4 (fun h5 F5 N5 => ?_) law_kind lk_second))
  refine assignInOrder_cons (bindName_ (storeX_L (s := { s with heap := h5, toks := tk2 + 1 }) F5 N5 (fun h6 F6 N6 => ?_) law_kind lk_first))
  refine assignInOrder_nil ?_
  refine h _ h6 _ ty tz F6 N6 ?_ (if_pos rfl) ?_
  · show (if _ then _ else if _ then _ else _) = _
    rw [if_neg ne_fs.1, if_neg ne_fs.2.1]; exact hm
  · show (if _ then _ else if _ then _ else _) = _
    rw [if_neg ne_fs.2.2, if_pos rfl]
end
end DaWalk
open PySem PySem.W PyProof.Rows DaHead
set_option Elab.async false
set_option linter.unusedVariables false
set_option linter.constructorNameAsVariable false
set_option maxRecDepth 100000
namespace DaWalk
theorem lk_danish : lawSc.names.lookup (Str.ofString "DanishStemmer") = some .globalImplicit := by decide +kernel
theorem lk_stemmer : lawSc.names.lookup (Str.ofString "stemmer") = some .local := by decide +kernel
theorem d_stemmer : (Str.ofString "stemmer" == ("__debug__" : Str)) = false := by decide +kernel
theorem k_makes (P : Params) : makesIn (KF P) 403 = true := by kernel_rfl
theorem k_init (P : Params) : findIn (KF P) (.ref 403) "__init__" = some (some (.ref 35)) := by kernel_rfl
theorem k_init_fn (P : Params) : isFn (KF P) (.ref 35) = true := by kernel_rfl
theorem k_keep_cls (P : Params) : keepIn (KF P) (.ref 403) = true := by kernel_rfl
section
variable {w : World} {hb : Heap} {L sl : Addr} {s : Shared} {mean : ExcName → Option Value} {mg mb : Str → Option Value} {A : Around} {E : Value → Shared → Prop} {fa : Addr} {cd : Value} {m : Str → Option Value} {kp : List (Addr × Obj)}
/-- a stemmer made -/
theorem law_make {p1 p2 : Pos} {Q : Value → Shared → Prop} (C : Cx w hb none [] kp mean mg mb A) (hF : Fx A (lawE L fa cd) [] L [] 20) (F : Fr hb L s.heap m) (N : News hb L s.heap kp)
    (h : ∀ x d h' tk, Cx w hb (some (x, d)) [] kp mean mg mb A → Hp w hb (some (x, d)) L [] kp m (some (F6 [] 0 0 0 0 0)) h' → Q (.ref x) { s with heap := h', toks := tk }) :
    wpAny (model pw w) A (eval (.Call (.Name (Str.ofString "DanishStemmer") p1) [] [] p2) (lawE L fa cd)) Q E s := by
  refine Call_ (nameX_K F C.X (topRead_of C.T) (k_danish _) ?_ law_kind lk_danish dbg_danish)
  refine callWith_K0 (C.X.keeps F.keep) (k_keep_cls _) ?_
  refine call_cls F C.X N (k_makes _) (k_init _) (k_init_fn _) fun x d h1 F1 N1 lt1 lt2 => ?_
  have S1 : Side (some (x, d)) [] kp := ⟨fun p hp => (C.side.kpn p hp).elim .inl fun a => .inr ⟨fun x' d' e => by cases e; exact Nat.ne_of_lt (lt1 p hp), fun q hq => nomatch hq⟩, fun _ _ _ p hp => nomatch hp⟩
  have C1 : Cx w hb (some (x, d)) [] kp mean mg mb A := ⟨C.X, C.T, S1, C.hh⟩
  have C2 : Cx w hb (some (x, d)) [] kp mean mg mb (A.under (.builtin "type.__call__" ⟨[.ref 403], []⟩)) := ⟨C.X, C.T, S1, C.hh⟩
  have F2 : Fx (A.under (.builtin "type.__call__" ⟨[.ref 403], []⟩)) (lawE L fa cd) [] L [] 4 := ⟨hF.fr, hF.frame, hF.kind, hF.frs, by
    have e : (Code.builtin "type.__call__" ⟨[.ref 403], []⟩).weight ≤ 3 := by decide +kernel
    have := hF.depth
    show A.depth + (Code.builtin "type.__call__" ⟨[.ref 403], []⟩).weight + 4 < recursionLimit
    omega⟩
  have H1 : Hp w hb (some (x, d)) L [] kp m (some []) h1 := by
    refine ⟨[], 0, [], F1, fun p hp => ?_, TI.SameUp.refl [], ⟨rfl, trivial⟩⟩
    rcases List.mem_append.mp hp with h2 | h2
    · rcases List.mem_cons.mp h2 with rfl | h2
      · exact N1 _ (List.mem_cons_of_mem _ List.mem_cons_self)
      · rw [List.mem_singleton.mp h2]; exact N1 _ List.mem_cons_self
    · rcases List.mem_append.mp h2 with h2 | h2
      · exact N1 p (List.mem_cons_of_mem _ (List.mem_cons_of_mem _ h2))
      · exact nomatch h2
  exact orcOk_of w hb (some (x, d)) mean mg mb 3 .init_ [] (some []) .none (some (F6 [] 0 0 0 0 0)) (init_is 1) _ L [] kp m { s with heap := h1 } _ [] [] _ C2 F2 H1 .nil fun y h2 tk hy H2 => ⟨hy, h x d h2 tk C1 H2⟩
/-- a method call out of the law's frame -/
theorem law_meth {x d : Addr} {n : Nm} {l : List (Nm × MV)} {p1 p2 p3 : Pos} {args : List Expr} {Q : Value → Shared → Prop} (C : Cx w hb (some (x, d)) [] kp mean mg mb A) (H : Hp w hb (some (x, d)) L [] kp m (some l) s.heap)
    (hx : m (Str.ofString "stemmer") = some (.ref x)) (hm : isMeth n = true) (hn : getN n l = none) (hline : (p2.endLine == p3.line) = true)
    (hfew : methodCallForm (args.length + ([] : List Keyword).length) (backTo p3 (starEach args (lawE L fa cd))) (backToKw p3 (keywordEach [] (lawE L fa cd))) = true)
    (h : wpAny (model pw w) A (callWith p3 (.ref (fnAt n)) [.ref x] (backTo p3 (starEach args (lawE L fa cd))) []) Q E s) :
    wpAny (model pw w) A (eval (.Call (.Attribute (.Name (Str.ofString "stemmer") p1) (nm n) p2) args [] p3) (lawE L fa cd)) Q E s := by
  have F := H.fr
  refine mcall (by rfl) hfew hline (nameX_L F hx ?_ law_kind lk_stemmer d_stemmer)
  obtain ⟨es, k, fl, e1, I, FO⟩ := H.inst
  cases e1
  exact method_inst F C.X I (k_get _ n) (k_meth _ n hm).1 (k_meth _ n hm).2.1 (fld_miss FO hn) h
end
end DaWalk
open PySem PySem.W PyProof.Rows DaHead
set_option Elab.async false
set_option linter.unusedVariables false
set_option linter.constructorNameAsVariable false
set_option maxRecDepth 100000
namespace DaWalk
noncomputable def sObj (P : Params) : Obj := ((KF P).lookup 194).getD default
noncomputable def sFd (P : Params) : FuncData := match (sObj P).data with
  | .func fd => fd
  | _ => default
noncomputable def sSs : List Stmt := fnB (clsS 2 23)
noncomputable abbrev sSc : Scope := fnC (clsS 2 23)
noncomputable abbrev sE (P : Params) (L : Addr) : Env := envX (Str.ofString "BaseStemmer.stemWords") sSc L 194 (sFd P).code [(Str.ofString "self", L + 1)]
theorem s_obj (P : Params) : (KF P).lookup 194 = some (sObj P) := by kernel_rfl
theorem s_fd (P : Params) : (sObj P).data = .func (sFd P) := by kernel_rfl
theorem s_code (P : Params) : codeIn (KF P) (sFd P).code (sFd P).qualname = true := by kernel_rfl
theorem s_body (P : Params) : (sFd P).body = .stmts sSs := by kernel_rfl
theorem s_scope (P : Params) : (sFd P).scope = sSc := by kernel_rfl
theorem s_clos (P : Params) : (sFd P).closure = [] := by kernel_rfl
theorem s_kind : sSc.kind = .function := by kernel_rfl
theorem s_co : sSc.isCoroutine = false := by kernel_rfl
theorem s_gen : sSc.isGenerator = false := by kernel_rfl
theorem s_bind (P : Params) (a b : Value) : bindArgs (sFd P) ⟨[a, b], []⟩ = pure [(Str.ofString "self", a), (Str.ofString "words", b)] := by kernel_rfl
theorem s_env (P : Params) (L : Addr) : newEnv sSc L (sFd P).globals (cellsFrom (L + 1) sSc.names []) ((sFd P).qualname ++ ".<locals>.") (some 194) (sFd P).code none (sFd P).builtins = sE P L := by kernel_rfl
theorem s_cells (n : Nat) : cellsFrom n sSc.names [] = [(Str.ofString "self", n)] := by kernel_rfl
theorem s_self : sSc.names.lookup (Str.ofString "self") = some .cell := by decide +kernel
theorem s_words : sSc.names.lookup (Str.ofString "words") = some .local := by decide +kernel
theorem s_cellsOk : sSc.names.all (fun z => true) = true := by decide +kernel
section
variable {w : World} {hb : Heap} {me : Option (Addr × Addr)} {L : Addr} {s : Shared} {mean : ExcName → Option Value} {mg mb : Str → Option Value} {A : Around} {m : Str → Option Value} {frs₀ kp : List (Addr × Obj)} {fl : Fl} {env : Env} {l : List Env} {k : Nat}
theorem enter_words {a v : Value} {R : Result → Shared → Prop} (C : Cx w hb me frs₀ kp mean mg mb A) (hF : Fx A env l L frs₀ (k + 1)) (H : Hp w hb me L frs₀ kp m fl s.heap)
    (h : ∀ (L' : Addr) (frs' : List (Addr × Obj)) (oC oL : Obj) (h₁ : Heap) (tk : Nat) (m' : Str → Option Value), Cx w hb me frs' ((L' + 1, oC) :: kp) mean mg mb (A.deeper (sE w.params L')) → Fx (A.deeper (sE w.params L')) (sE w.params L') (env :: l) L' frs' k →
      Hp w hb me L' frs' ((L' + 1, oC) :: kp) m' fl h₁ → oC.data = .cell (some a) → m' (Str.ofString "words") = some v → (∃ r, frs' = (L, oL) :: r) →
      (∀ D oD fl' m' h', D ≠ L → Hp w hb me L' frs' ((D, oD) :: kp) m' fl' h' → Hp w hb me L frs₀ ((D, oD) :: kp) m fl' h') →
      wpAny (model pw w) (A.deeper (sE w.params L')) (execs sSs (sE w.params L'))
        (fun fl s' => R (.ok (.ret (match fl with | .ret v => v | _ => .none))) s')
        (fun e s' => wpAny (model pw w) (A.deeper (sE w.params L')) (leaving (sE w.params L') e) (fun _ s'' => R (.error e) s'') (fun e' s'' => R (.error e') s'') s')
        { s with heap := h₁, toks := tk }) :
    codeAny (model pw w) A (.call (.ref 194) ⟨[a, v], []⟩) R s := by
  obtain ⟨es, n, frs, F, N, S, O⟩ := H
  have X := C.X.keeps F.keep
  obtain ⟨oL, esL, ep, hL, hLd, hLk, hLf⟩ := F.ns
  have hLt := Heap.lt_size hL
  refine codeAny_call_function (fd := sFd w.params) (body := sSs) (by have := hF.depth; omega) (X _ _ (s_obj _)) (s_fd _) (by rw [s_scope]; exact s_co) (by rw [s_scope]; exact s_gen) (s_body _) (codeRec_of X (s_code _)) ?_
  rw [s_bind, s_scope, s_clos]
  refine wpAny_pure (wpAny_newFunctionEnv_cells s_kind (fun x hx => ?_) fun env' he s' x => ?_)
  · rcases List.mem_cons.mp hx with rfl | hx
    · exact .inr ⟨s_self, by rw [s_cells]; rfl⟩
    · rw [List.mem_singleton.mp hx]; exact .inl s_words
  · rw [s_env] at he
    subst he
    refine ⟨(C.T.nolimit.keeps F.keep).keeps x.toInCall.keep, codeAny_func ?_⟩
    obtain ⟨h₁, tk, rfl, _⟩ := x.done
    have hk₁ := x.toInCall.keep
    obtain ⟨oC, hC, dC⟩ := x.cell (Str.ofString "self") (s.heap.objs.size + 1) rfl
    have hnone : ∀ b, L ≤ b → hb.get? b = none := fun b hbL => Heap.get?_none_of_le (Nat.le_trans F.above hbL)
    have dC' : oC.data = .cell (some a) := dC.trans (by kernel_rfl)
    have ltN : ∀ p ∈ selfL me es n ++ (kp ++ frs), p.1 < s.heap.objs.size := fun p hp => Heap.lt_size (N p hp).1
    have inK : ∀ p ∈ kp, p ∈ selfL me es n ++ (kp ++ frs) := fun p hp => List.mem_append_right _ (List.mem_append_left _ hp)
    have inF : ∀ p ∈ frs, p ∈ selfL me es n ++ (kp ++ frs) := fun p hp => List.mem_append_right _ (List.mem_append_right _ hp)
    have old : ∀ q ∈ selfL me es n ++ (kp ++ frs), h₁.get? q.1 = some q.2 ∧ q.1 ≠ s.heap.objs.size ∧ hb.get? q.1 = none := fun q hq => ⟨hk₁ _ _ (N q hq).1, Nat.ne_of_lt (ltN q hq), (N q hq).2.2⟩
    refine h s.heap.objs.size ((L, oL) :: frs) oC oL h₁ tk _ ⟨C.X, C.T, ⟨fun p hp => ?_, fun x d e p hp => ?_⟩, C.hh⟩
      ⟨Around.frames_deeper hF.fr, rfl, by rw [show (sE w.params s.heap.objs.size).scope.kind = sSc.kind from rfl, s_kind]; decide, ⟨hF.kind, hF.frame, ⟨esL, ep, hLd⟩, hF.frs.up S⟩, by have := hF.depth; show A.depth + 1 + k < recursionLimit; omega⟩
      ⟨es, n, (L, oL) :: frs, ⟨x.toInCall.ns, fun b o e => hk₁ b o (F.keep b o e), Nat.le_trans F.above (Nat.le_of_lt hLt)⟩, fun p hp => ?_, TI.SameUp.refl _, O⟩ dC' (by kernel_rfl) ⟨frs, rfl⟩ fun D oD fl' m' h' hDL H' => ?_
    · rcases List.mem_cons.mp hp with rfl | hp
      · exact .inl (by unfold TI.notDict; rw [dC'])
      · rcases C.side.kpn p hp with k | k
        · exact .inl k
        · refine .inr ⟨k.1, fun q hq => ?_⟩
          rcases List.mem_cons.mp hq with rfl | hq
          · exact fun q => (N p (inK p hp)).2.1 q.symm
          · obtain ⟨y, hy, e⟩ := S.fwd q hq
            rw [e]
            exact k.2 y hy
    · subst e
      rcases List.mem_cons.mp hp with rfl | hp
      · exact fun q => (N (d, dictOf es n) (List.mem_append_left _ (List.Mem.head _))).2.1 q.symm
      · obtain ⟨y, hy, q⟩ := S.fwd p hp
        rw [q]
        exact C.side.dxf x d rfl y hy
    · rcases List.mem_append.mp hp with h1 | h1
      · exact old p (List.mem_append_left _ h1)
      · rcases List.mem_append.mp h1 with h1 | h1
        · rcases List.mem_cons.mp h1 with rfl | h1
          · exact ⟨hC, Nat.ne_of_gt (Nat.lt_succ_self _), hnone _ (Nat.le_succ_of_le (Nat.le_of_lt hLt))⟩
          · exact old p (inK p h1)
        · rcases List.mem_cons.mp h1 with rfl | h1
          · exact ⟨hk₁ _ _ hL, Nat.ne_of_lt hLt, hnone L (Nat.le_refl _)⟩
          · exact old p (inF p h1)
    · obtain ⟨es', n', frs', F', N', S', O'⟩ := H'
      match frs', S' with
      | q :: frs'', ⟨q1, ⟨sl, q2⟩, S''⟩ =>
        have hLn := N' q (List.mem_append_right _ (List.mem_append_right _ (List.mem_cons_self)))
        rw [q1, q2] at hLn
        refine ⟨es', n', frs'', ⟨⟨_, esL, ep, hLn.1, hLd, hLk, hLf⟩, F'.keep, F.above⟩, fun p hp => ?_, S.trans S'', O'⟩
        have hp' : p ∈ selfL me es' n' ++ (((D, oD) :: kp) ++ (q :: frs'')) := by
          rcases List.mem_append.mp hp with h1 | h1
          · exact List.mem_append_left _ h1
          · rcases List.mem_append.mp h1 with h1 | h1
            · exact List.mem_append_right _ (List.mem_append_left _ h1)
            · exact List.mem_append_right _ (List.mem_append_right _ (List.mem_cons_of_mem _ h1))
        have hn := N' p hp'
        refine ⟨hn.1, ?_, hn.2.2⟩
        rcases List.mem_append.mp hp with h1 | h1
        · obtain ⟨x, d, e, q⟩ := selfL_addr h1
          subst e
          rcases q with q | q
          · rw [q]; exact (N (x, instObj 403 d) (List.mem_append_left _ (List.Mem.tail _ (List.Mem.head _)))).2.1
          · rw [q]; exact (N (d, dictOf es n) (List.mem_append_left _ (List.Mem.head _))).2.1
        · rcases List.mem_append.mp h1 with h1 | h1
          · rcases List.mem_cons.mp h1 with rfl | h1
            · exact hDL
            · exact (N p (inK p h1)).2.1
          · obtain ⟨y, hy, q⟩ := S''.fwd p h1
            rw [q]
            exact (N y (inF y hy)).2.1
end
end DaWalk
open PySem PySem.W PyProof.Rows DaHead
set_option Elab.async false
set_option linter.unusedVariables false
set_option linter.constructorNameAsVariable false
set_option maxRecDepth 100000
namespace DaWalk
noncomputable abbrev wSc : Scope := match sSs with
  | [st] => compSc st
  | _ => default
noncomputable abbrev slCl (L : Addr) : List (Str × Addr) := [(Str.ofString "self", L + 1)]
noncomputable abbrev wE (P : Params) (C L : Addr) : Env := compEnvC wSc (slCl L) C (sE P L)
theorem w_kind0 : wSc.kind = .function := by kernel_rfl
theorem w_kind (P : Params) (C L : Addr) : (wE P C L).scope.kind = .function := by kernel_rfl
theorem w_self (P : Params) (C L : Addr) : (wE P C L).kindOf (Str.ofString "self") = some .cell := by kernel_rfl
theorem w_word (P : Params) (C L : Addr) : (wE P C L).kindOf (Str.ofString "word") = some .local := by kernel_rfl
theorem w_names : (wSc.names.all fun z => decide (z.2 ≠ .cell) && (decide (z.2 ≠ .local) || decide (wSc.names.lookup z.1 = some .local))) = true := by decide +kernel
theorem w_x : wSc.names.lookup (Str.ofString "word") = some .local := by decide +kernel
theorem d_self : (Str.ofString "self" == ("__debug__" : Str)) = false := by decide +kernel
section
variable {w : World} {hb : Heap} {x d : Addr} {L : Addr} {s : Shared} {mean : ExcName → Option Value} {mg mb : Str → Option Value} {A : Around} {E : Value → Shared → Prop} {m : Str → Option Value} {frs₀ kp : List (Addr × Obj)} {l : List Env}
theorem strs_snoc {ys : List Value} {zs : List (List Nat)} (h : StrsAre ys (zs.map txS)) (z : List Nat) (t : Tok) : StrsAre (ys ++ [.str (txS z) t]) ((zs ++ [z]).map txS) := by
  rw [List.map_append]
  exact h.append' (.cons _ _ .nil)
theorem off_all {es es' : List DictEntry} {n n' : Nat} {frs frs' : List (Addr × Obj)} {I C D : Addr} (S : TI.SameUp frs₀ frs) (S' : TI.SameUp frs₀ frs') (off : LCg.Off3 I C D (selfL (some (x, d)) es n ++ (kp ++ frs))) : LCg.Off3 I C D (selfL (some (x, d)) es' n' ++ (kp ++ frs')) := by
  have om := off.mem
  refine LCg.Off3.of fun p hp => ?_
  rcases List.mem_append.mp hp with h1 | h1
  · rcases List.mem_cons.mp h1 with rfl | h1
    · exact om (d, dictOf es n) (List.mem_append_left _ (List.Mem.head _))
    · rw [List.mem_singleton.mp h1]
      exact om (x, instObj 403 d) (List.mem_append_left _ (List.Mem.tail _ (List.Mem.head _)))
  · rcases List.mem_append.mp h1 with h1 | h1
    · exact om p (List.mem_append_right _ (List.mem_append_left _ h1))
    · obtain ⟨y, hy, e⟩ := S'.fwd p h1
      obtain ⟨sl, hm⟩ := S.back y hy
      have := om _ (List.mem_append_right _ (List.mem_append_right _ hm))
      rw [e]; exact this
theorem words_rest {oC : Obj} {ws : List (List Nat)} {vs : List Value} {ax : Addr} {p1 p2 p3 p4 : Pos} {Fin : List Value → List (Addr × Obj) → Prop} (C : Cx w hb (some (x, d)) frs₀ ((L + 1, oC) :: kp) mean mg mb A) (hF : Fx A (sE w.params L) l L frs₀ 9) (hline : (p2.endLine == p4.line) = true)
    (dC : oC.data = .cell (some (.ref x))) (hax : (ax, ({ cls := .type "list", data := .seq vs.toArray } : Obj)) ∈ kp) (hv : StrsAre vs (ws.map txS)) (hb24 : ∀ x ∈ ws, x.length ≤ 24)
    (fin : ∀ ys es n frs fl, StrsAre ys ((ws.map stemL).map txS) → TI.SameUp frs₀ frs → FldOk w (some (x, d)) es fl → Flds fl → Fin ys (selfL (some (x, d)) es n ++ (((L + 1, oC) :: kp) ++ frs))) :
    ∀ (k i : Nat) (ys : List Value) (es : List DictEntry) (n : Nat) (frs : List (Addr × Obj)) (fl : List (Nm × MV)), i + k = ws.length → StrsAre ys (((ws.take i).map stemL).map txS) → TI.SameUp frs₀ frs → FldOk w (some (x, d)) es fl → Flds fl →
      LCg.CompRest pw w A hb L m (sE w.params L) (.Call (.Attribute (.Name (Str.ofString "self") p1) (nm .stemWord) p2) [.Name (Str.ofString "word") p3] [] p4) (Str.ofString "word") wSc (slCl L) s (LCg.SrcAt hb ax vs.toArray) (fun i v => vs.toArray[i]? = some v) Fin k i ys
        (selfL (some (x, d)) es n ++ (((L + 1, oC) :: kp) ++ frs))
  | 0, i, ys, es, n, frs, fl, hi, hy, S, FO, fo => LCg.CompRest.zero (fin ys es n frs fl (by rw [List.take_of_length_le (by omega)] at hy; exact hy) S FO fo)
  | k + 1, i, ys, es, n, frs, fl, hi, hy, S, FO, fo => by
    refine LCg.CompRest.succ fun v I oI Cn oCn D m₂ h tk E' hP nC hn F N off ne => ?_
    obtain ⟨z, hz⟩ : ∃ z, ws[i]? = some z := ⟨_, List.getElem?_eq_getElem (by omega)⟩
    obtain ⟨t, ht⟩ := str_at hv hz
    have hv' : v = .str (txS z) t := by
      have : vs[i]? = some v := by simpa using hP
      rw [ht] at this
      exact (Option.some.inj this).symm
    subst hv'
    have b24 := hb24 z (List.mem_of_getElem? hz)
    have om := off.mem
    have inn : ∀ q ∈ selfL (some (x, d)) es n ++ (((L + 1, oC) :: kp) ++ frs), q ∈ (I, oI) :: (Cn, oCn) :: (D, LCg.lst ys) :: (selfL (some (x, d)) es n ++ (((L + 1, oC) :: kp) ++ frs)) := fun q hq => List.mem_cons_of_mem _ (List.mem_cons_of_mem _ (List.mem_cons_of_mem _ hq))
    have inC : (L + 1, oC) ∈ selfL (some (x, d)) es n ++ (((L + 1, oC) :: kp) ++ frs) := List.mem_append_right _ (List.mem_append_left _ List.mem_cons_self)
    refine mcall (by rfl) (by rfl) hline (lcf_cell N rfl (inn _ inC) dC ?_ (w_kind _ _ _) (w_self _ _ _) d_self)
    have hI : InstAt h x (instObj 403 d) 403 (some (dictOf es n)) := InstAt.of_news N (inn _ (List.mem_append_left _ (List.Mem.tail _ (List.Mem.head _)))) (inn _ (List.mem_append_left _ (List.Mem.head _)))
    have hno : getN .stemWord fl = none := by rcases fo with ⟨v, c, l, lb, b, k, rfl⟩ | ⟨v, c, l, lb, b, k, p, rfl⟩ <;> rfl
    refine method_inst F C.X hI (k_get _ .stemWord) (k_meth _ .stemWord rfl).1 (k_meth _ .stemWord rfl).2.1 (fld_miss FO hno) ?_
    refine callWith_K C.X (k_meth _ .stemWord rfl).2.2 (args_cons (LCgL.ld_own N (List.mem_cons_of_mem _ List.mem_cons_self) nC hn (args_nil ⟨C.X.keeps F.keep, ?_⟩) (w_kind _ _ _) (w_word _ _ _) d_word) rfl) rfl
    obtain ⟨fl2, fo2, ho⟩ := stemWord_is z 0 (by omega) fo
    have ap : ∀ q ∈ [(I, oI), (Cn, oCn), (D, LCg.lst ys)], Apart (some (x, d)) frs₀ q := fun q hq => by
      have each : ∀ r ∈ selfL (some (x, d)) es n ++ (((L + 1, oC) :: kp) ++ frs), r.1 ≠ q.1 := fun r hr => by
        rcases List.mem_cons.mp hq with rfl | hq
        · exact (om r hr).1
        · rcases List.mem_cons.mp hq with rfl | hq
          · exact (om r hr).2.1
          · rw [List.mem_singleton.mp hq]; exact (om r hr).2.2
      refine ⟨fun x' d' e => ?_, fun y hy => ?_⟩
      · cases e
        exact Ne.symm (each (d, dictOf es n) (List.mem_append_left _ (List.Mem.head _)))
      · obtain ⟨sl, hm⟩ := S.back y hy
        exact each (y.1, { y.2 with slots := sl }) (List.mem_append_right _ (List.mem_append_right _ hm))
    have C2 : Cx w hb (some (x, d)) frs₀ ([(I, oI), (Cn, oCn), (D, LCg.lst ys)] ++ ((L + 1, oC) :: kp)) mean mg mb A := ⟨C.X, C.T, ⟨fun q hq => by
      rcases List.mem_append.mp hq with hq | hq
      · exact .inr (ap q hq)
      · exact C.side.kpn q hq, C.side.dxf⟩, C.hh⟩
    have H2 : Hp w hb (some (x, d)) L frs₀ ([(I, oI), (Cn, oCn), (D, LCg.lst ys)] ++ ((L + 1, oC) :: kp)) m (some fl) h := by
      refine ⟨es, n, frs, F, fun q hq => ?_, S, ⟨rfl, FO⟩⟩
      rcases List.mem_append.mp hq with h1 | h1
      · exact N q (inn q (List.mem_append_left _ h1))
      · rcases List.mem_append.mp h1 with h1 | h1
        · rcases List.mem_append.mp h1 with h1 | h1
          · refine N q ?_
            rcases List.mem_cons.mp h1 with rfl | h1
            · exact List.mem_cons_self
            · rcases List.mem_cons.mp h1 with rfl | h1
              · exact List.mem_cons_of_mem _ List.mem_cons_self
              · rw [List.mem_singleton.mp h1]; exact List.mem_cons_of_mem _ (List.mem_cons_of_mem _ List.mem_cons_self)
          · exact N q (inn q (List.mem_append_right _ (List.mem_append_left _ h1)))
        · exact N q (inn q (List.mem_append_right _ (List.mem_append_right _ h1)))
    refine wpAny_call (orcOk_of w hb (some (x, d)) mean mg mb 8 .stemWord [.str z] (some fl) _ _ ho A L frs₀ _ m { s with heap := h, toks := tk } _ l [.str (txS z) t] _ C2 hF H2 (.cons ⟨by omega, t, rfl⟩ .nil) fun y h3 tk3 hy3 H3 => ?_)
    obtain ⟨hz3, t3, rfl⟩ := hy3
    obtain ⟨es3, n3, frs3, F3, N3, S3, O3⟩ := H3
    refine LCg.CompEnd.intro (s₁ := { s with heap := h, toks := tk }) F3 N3 (selfL (some (x, d)) es3 n3 ++ (((L + 1, oC) :: kp) ++ frs3)) (fun q hq => ?_) (off_all S S3 off) (.inr ⟨_, List.mem_append_right _ (List.mem_append_left _ (List.mem_cons_of_mem _ hax)), rfl, _, rfl⟩) ?_
    · rcases List.mem_cons.mp hq with rfl | hq
      · exact List.mem_append_right _ (List.mem_append_left _ List.mem_cons_self)
      · rcases List.mem_cons.mp hq with rfl | hq
        · exact List.mem_append_right _ (List.mem_append_left _ (List.mem_cons_of_mem _ List.mem_cons_self))
        · rcases List.mem_cons.mp hq with rfl | hq
          · exact List.mem_append_right _ (List.mem_append_left _ (List.mem_cons_of_mem _ (List.mem_cons_of_mem _ List.mem_cons_self)))
          · rcases List.mem_append.mp hq with h1 | h1
            · exact List.mem_append_left _ h1
            · rcases List.mem_append.mp h1 with h1 | h1
              · exact List.mem_append_right _ (List.mem_append_left _ (List.mem_cons_of_mem _ (List.mem_cons_of_mem _ (List.mem_cons_of_mem _ h1))))
              · exact List.mem_append_right _ (List.mem_append_right _ h1)
    · refine words_rest C hF hline dC hax hv hb24 fin k (i + 1) _ es3 n3 frs3 fl2 (by omega) ?_ S3 O3.2 fo2
      have e : ws.take (i + 1) = ws.take i ++ [z] := by rw [List.take_add_one, hz]; rfl
      rw [e, List.map_append]
      exact strs_snoc hy _ t3
end
end DaWalk
open PySem PySem.W PyProof.Rows DaHead
set_option Elab.async false
set_option linter.unusedVariables false
set_option linter.constructorNameAsVariable false
set_option maxRecDepth 100000
namespace DaWalk
section
variable {w : World} {hb : Heap} {x d : Addr} {L : Addr} {s : Shared} {mean : ExcName → Option Value} {mg mb : Str → Option Value} {A : Around} {E : Value → Shared → Prop} {m : Str → Option Value} {frs₀ kp : List (Addr × Obj)} {l : List Env} {env : Env}
theorem words_body {oC : Obj} {ws : List (List Nat)} {vs : List Value} {ax : Addr} {fl : List (Nm × MV)} {Q : Flow → Shared → Prop} (C : Cx w hb (some (x, d)) frs₀ ((L + 1, oC) :: kp) mean mg mb A) (hF : Fx A (sE w.params L) l L frs₀ 9)
    (H : Hp w hb (some (x, d)) L frs₀ ((L + 1, oC) :: kp) m (some fl) s.heap) (dC : oC.data = .cell (some (.ref x))) (hw : m (Str.ofString "words") = some (.ref ax)) (hax : (ax, ({ cls := .type "list", data := .seq vs.toArray } : Obj)) ∈ kp)
    (hv : StrsAre vs (ws.map txS)) (hb24 : ∀ x ∈ ws, x.length ≤ 24) (hlen : ws.length = 2) (fo : Flds fl)
    (hq : ∀ D h' tk ys fl', (∀ p ∈ frs₀, p.1 ≠ D) → StrsAre ys ((ws.map stemL).map txS) → Flds fl' → Hp w hb (some (x, d)) L frs₀ ((D, LCg.lst ys) :: kp) m (some fl') h' → Q (.ret (.ref D)) { s with heap := h', toks := tk }) :
    wpAny (model pw w) A (execs sSs (sE w.params L)) Q E s := by
  obtain ⟨es, n, frs, F, N, S, O⟩ := H
  have hnm := List.all_eq_true.mp w_names
  have zv : vs.length = 2 := by rw [hv.len_eq, List.length_map, hlen]
  refine wpAny_execs_cons (wpAny_Return_some ?_)
  refine LCg.ListComp_U (h₀ := hb) (L := L) (m := m) (cl := slCl L) F (by kernel_rfl) (fun z hz => ?_) w_kind0 (fun z hz hl => ?_) w_x ?_
  · have := hnm z hz
    rw [Bool.and_eq_true] at this
    exact of_decide_eq_true this.1
  · have := hnm z hz
    rw [Bool.and_eq_true, Bool.or_eq_true] at this
    rcases this.2 with q | q
    · exact absurd hl (of_decide_eq_true q)
    · exact of_decide_eq_true q
  · refine nameX_L F hw ?_ s_kind s_words d_words
    refine LCg.CompSrc.ledger C.hh F N (List.mem_append_right _ (List.mem_append_left _ (List.mem_cons_of_mem _ hax))) (by rw [List.size_toArray, zv]; unfold sizeLine; omega) fun g => ?_
    rw [show vs.toArray.size = 2 from by rw [List.size_toArray, zv]]
    refine words_rest C hF rfl dC hax hv hb24 (fun ys es' n' frs' fl' hy S' FO' fo' => ?_) 2 0 [] es n frs fl (by omega) .nil S O.2 fo
    intro D h' tk F' N' o1
    have om := off_mem o1
    refine hq D h' tk ys fl' (fun p hp => ?_) hy fo' ⟨es', n', frs', F', fun p hp => N' p ?_, S', ⟨rfl, FO'⟩⟩
    · obtain ⟨sl, hm⟩ := S'.back p hp
      exact om (p.1, { p.2 with slots := sl }) (List.mem_append_right _ (List.mem_append_right _ hm))
    · rcases List.mem_append.mp hp with h1 | h1
      · exact List.mem_cons_of_mem _ (List.mem_append_left _ h1)
      · rcases List.mem_append.mp h1 with h1 | h1
        · rcases List.mem_cons.mp h1 with rfl | h1
          · exact List.mem_cons_self
          · exact List.mem_cons_of_mem _ (List.mem_append_right _ (List.mem_append_left _ (List.mem_cons_of_mem _ h1)))
        · exact List.mem_cons_of_mem _ (List.mem_append_right _ (List.mem_append_right _ h1))
/-- stemWords, called -/
theorem words_call {ws : List (List Nat)} {vs : List Value} {ax : Addr} {fl : List (Nm × MV)} {Q : Value → Shared → Prop} (C : Cx w hb (some (x, d)) frs₀ kp mean mg mb A) (hF : Fx A env l L frs₀ 10)
    (H : Hp w hb (some (x, d)) L frs₀ kp m (some fl) s.heap) (hax : (ax, ({ cls := .type "list", data := .seq vs.toArray } : Obj)) ∈ kp)
    (hv : StrsAre vs (ws.map txS)) (hb24 : ∀ x ∈ ws, x.length ≤ 24) (hlen : ws.length = 2) (fo : Flds fl)
    (hq : ∀ D h' tk ys fl', StrsAre ys ((ws.map stemL).map txS) → Flds fl' → Hp w hb (some (x, d)) L frs₀ ((D, LCg.lst ys) :: kp) m (some fl') h' → Q (.ref D) { s with heap := h', toks := tk }) :
    wpAny (model pw w) A (call (.ref 194) [.ref x, .ref ax]) Q E s := by
  refine wpAny_call (enter_words C hF H fun L' frs' oC oL h₁ tk m' C' F' H' dC hw hfr back => ?_)
  obtain ⟨r, rfl⟩ := hfr
  exact words_body C' F' H' dC hw hax hv hb24 hlen fo fun D h' tk' ys fl' offD hy fo' H'' => hq D h' tk' ys fl' hy fo' (back D _ _ _ _ (Ne.symm (offD _ List.mem_cons_self)) H'')
end
end DaWalk
open PySem PySem.W PyProof.Rows DaHead
set_option Elab.async false
set_option linter.unusedVariables false
set_option linter.constructorNameAsVariable false
set_option maxRecDepth 100000
namespace DaWalk
theorem ne_st : Str.ofString "words" ≠ Str.ofString "stemmer" ∧ Str.ofString "first" ≠ Str.ofString "stemmer" ∧ Str.ofString "second" ≠ Str.ofString "stemmer" := by decide +kernel
theorem k_sw (P : Params) : plainGet (KF P) 403 (Str.ofString "stemWords") = true ∧ findIn (KF P) (.ref 403) (Str.ofString "stemWords") = some (some (.ref 194)) ∧ isFn (KF P) (.ref 194) = true ∧ keepIn (KF P) (.ref 194) = true := ⟨by kernel_rfl, by kernel_rfl, by kernel_rfl, by kernel_rfl⟩
theorem nm_sw : (Nm.all.all fun n => !(nm n == Str.ofString "stemWords")) = true := by decide +kernel
theorem no_sw (n : Nm) : (nm n == Str.ofString "stemWords") = false := by
  have := List.all_eq_true.mp nm_sw n (mem_all n)
  simpa using this
section
variable {w : World} {hb : Heap} {x d : Addr} {L : Addr} {s : Shared} {mean : ExcName → Option Value} {mg mb : Str → Option Value} {A : Around} {E : Value → Shared → Prop} {m : Str → Option Value} {kp : List (Addr × Obj)} {fa : Addr} {cd : Value} {fl : List (Nm × MV)}
theorem sw_miss {me : Option (Addr × Addr)} : ∀ {es : List DictEntry} {l : List (Nm × MV)}, FldOk w me es l → es.find? (·.key.isStr (Str.ofString "stemWords")) = none
  | [], [], _ => rfl
  | [], _ :: _, h => h.elim
  | _ :: _, [], h => h.elim
  | e :: es, (k, u) :: r, ⟨⟨t, hk⟩, hr, ho⟩ => by
    have : e.key.isStr (Str.ofString "stemWords") = false := by rw [hk]; exact no_sw k
    rw [List.find?_cons, this]
    exact sw_miss ho
theorem sw_get {me : Option (Addr × Addr)} {es : List DictEntry} {l : List (Nm × MV)} (F : FldOk w me es l) : getL (Str.ofString "stemWords") es = some none := by
  unfold getL; rw [sw_miss F, fld_ref F]; rfl
theorem flds_no (h : Flds fl) : getN .stemWord fl = none := by rcases h with ⟨v, c, l, lb, b, k, rfl⟩ | ⟨v, c, l, lb, b, k, p, rfl⟩ <;> rfl
/-- one side of the test -/
theorem law_side {W : Addr} {o : Obj} {w0 w1 z : List Nat} {i : Nat} {nme : Str} {tz : Tok} {p1 p2 p3 p4 p5 p6 p7 p8 : Pos} {k0 : Nat} {Q : Bool → Shared → Prop} (C : Cx w hb (some (x, d)) [] kp mean mg mb A) (hF : Fx A (lawE L fa cd) [] L [] 9) (H : Hp w hb (some (x, d)) L [] kp m (some fl) s.heap) (fo : Flds fl)
    (hx : m (Str.ofString "stemmer") = some (.ref x)) (hWm : (W, o) ∈ kp) (hW : WObj o [w0, w1]) (hm : m (Str.ofString "words") = some (.ref W)) (hz : [w0, w1][i]? = some z) (hl : lawSc.names.lookup nme = some .local) (hd : (nme == ("__debug__" : Str)) = false)
    (hn : m nme = some (.str (txS (stemL z)) tz)) (hline : (p2.endLine == p6.line) = true) (hq : ∀ h' tk fl', Flds fl' → Hp w hb (some (x, d)) L [] kp m (some fl') h' → Q false { s with heap := h', toks := tk }) :
    wpAny (model pw w) A (isTrue (.Compare (.Call (.Attribute (.Name (Str.ofString "stemmer") p1) (nm .stemWord) p2) [.Subscript (.Name (Str.ofString "words") p3) (.Constant (.int (i : Int)) k0 p4) p5] [] p6) [.NotEq] [.Name nme p7] p8) (lawE L fa cd)
      (eval (.Compare (.Call (.Attribute (.Name (Str.ofString "stemmer") p1) (nm .stemWord) p2) [.Subscript (.Name (Str.ofString "words") p3) (.Constant (.int (i : Int)) k0 p4) p5] [] p6) [.NotEq] [.Name nme p7] p8) (lawE L fa cd))) Q E s := by
  have z24 : z.length ≤ 24 := hW.2.choose_spec.choose_spec.2.2.2 z (List.mem_of_getElem? hz)
  refine wpAny_isTrue_Compare1 ?_ rfl
  refine law_meth C H hx rfl (flds_no fo) hline rfl ?_
  have getW : ∀ {h : Heap} {fl : List (Nm × MV)}, Hp w hb (some (x, d)) L [] kp m (some fl) h → h.get? W = some o := fun H => by
    obtain ⟨es, n, frs, F, N, S, O⟩ := H
    exact (N _ (List.mem_append_right _ (List.mem_append_left _ hWm))).1
  refine callWith_K C.X (k_meth _ .stemWord rfl).2.2 (args_cons (law_word H.fr (getW H) hW hm hz fun t => args_nil ⟨C.X.keeps H.fr.keep, ?_⟩) rfl) rfl
  obtain ⟨fl2, fo2, ho⟩ := stemWord_is z 0 (by omega) fo
  refine law_call (s := { s with toks := s.toks + 1 }) (f := .stemWord) (k := 8) (vals := [.str (txS z) t]) (me := some (x, d)) C hF H ho (.cons ⟨by omega, t, rfl⟩ .nil) fun y h3 tk3 hy3 H3 => ?_
  obtain ⟨hz3, t3, rfl⟩ := hy3
  refine nameX_L (s := { s with heap := h3, toks := tk3 }) H3.fr hn ?_ law_kind hl hd
  refine PyProof.Rows.ne_str ?_
  rw [show (txS (stemL z) != txS (stemL z)) = false from by simp]
  exact wpAny_truthy_bool (hq h3 tk3 fl2 fo2 H3)
end
end DaWalk
open PySem PySem.W PyProof.Rows DaHead
set_option Elab.async false
set_option linter.unusedVariables false
set_option linter.constructorNameAsVariable false
set_option maxRecDepth 100000
namespace DaWalk
section
variable {w : World} {hb : Heap} {x d : Addr} {L : Addr} {s : Shared} {mean : ExcName → Option Value} {mg mb : Str → Option Value} {A : Around} {E : Value → Shared → Prop} {m : Str → Option Value} {kp : List (Addr × Obj)} {fa : Addr} {cd : Value} {fl : List (Nm × MV)}
theorem law_if {W : Addr} {o : Obj} {w0 w1 : List Nat} {t0 t1 : Tok} {Q : Flow → Shared → Prop} {r : List Stmt} (C : Cx w hb (some (x, d)) [] kp mean mg mb A) (hF : Fx A (lawE L fa cd) [] L [] 9) (H : Hp w hb (some (x, d)) L [] kp m (some fl) s.heap) (fo : Flds fl)
    (hx : m (Str.ofString "stemmer") = some (.ref x)) (hWm : (W, o) ∈ kp) (hW : WObj o [w0, w1]) (hm : m (Str.ofString "words") = some (.ref W)) (h0 : m (Str.ofString "first") = some (.str (txS (stemL w0)) t0)) (h1 : m (Str.ofString "second") = some (.str (txS (stemL w1)) t1))
    (h : ∀ h' tk fl', Flds fl' → Hp w hb (some (x, d)) L [] kp m (some fl') h' → wpAny (model pw w) A (execs r (lawE L fa cd)) Q E { s with heap := h', toks := tk }) :
    wpAny (model pw w) A (execs (lawS 6 :: r) (lawE L fa cd)) Q E s := by
  refine wpAny_execs_cons (wpAny_If ?_)
  refine isTrue_or (law_side (i := 0) C hF H fo hx hWm hW hm rfl lk_first d_first h0 (by rfl) fun h2 tk2 fl2 fo2 H2 => ?_)
  refine isTrue_or (law_side (s := { s with heap := h2, toks := tk2 }) (i := 1) C hF H2 fo2 hx hWm hW hm rfl lk_second d_second h1 (by rfl) fun h3 tk3 fl3 fo3 H3 => ?_)
  exact isTrue_or_nil (wpAny_execs_nil (h h3 tk3 fl3 fo3 H3))
theorem law_return {W : Addr} {o : Obj} {w0 w1 : List Nat} {t0 t1 : Tok} {Q : Flow → Shared → Prop} (C : Cx w hb (some (x, d)) [] kp mean mg mb A) (hF : Fx A (lawE L fa cd) [] L [] 10) (hu : A.units < cLine) (H : Hp w hb (some (x, d)) L [] kp m (some fl) s.heap) (fo : Flds fl)
    (hx : m (Str.ofString "stemmer") = some (.ref x)) (hWm : (W, o) ∈ kp) (hW : WObj o [w0, w1]) (hm : m (Str.ofString "words") = some (.ref W)) (h0 : m (Str.ofString "first") = some (.str (txS (stemL w0)) t0)) (h1 : m (Str.ofString "second") = some (.str (txS (stemL w1)) t1))
    (h : ∀ h' tk, Fr hb L h' m → Q (.ret (.bool true)) { s with heap := h', toks := tk }) :
    wpAny (model pw w) A (execs [lawS 7] (lawE L fa cd)) Q E s := by
  have z24 : ∀ z ∈ [w0, w1], z.length ≤ 24 := hW.2.choose_spec.choose_spec.2.2.2
  have getW : ∀ {h : Heap}, Hp w hb (some (x, d)) L [] kp m (some fl) h → h.get? W = some o := fun H => by
    obtain ⟨es, n, frs, F, N, S, O⟩ := H
    exact (N _ (List.mem_append_right _ (List.mem_append_left _ hWm))).1
  refine wpAny_execs_cons (wpAny_Return_some (wpAny_Compare1 ?_))
  refine mcall (by rfl) rfl (by rfl) (nameX_L H.fr hx ?_ law_kind lk_stemmer d_stemmer)
  obtain ⟨es, k, fl0, e1, I, FO⟩ := H.inst
  cases e1
  refine method_inst H.fr C.X I (k_sw _).1 (k_sw _).2.1 (k_sw _).2.2.1 (sw_get FO) ?_
  refine callWith_K C.X (k_sw _).2.2.2 (args_cons (List_ (args_cons (law_word (i := 1) H.fr (getW H) hW hm rfl fun ta => args_cons (law_word (s := { s with toks := s.toks + 1 }) (i := 0) H.fr (getW H) hW hm rfl fun tb => args_nil ?_) rfl) rfl)) rfl) rfl
  obtain ⟨es1, n1, frs1, F1, N1, S1, O1⟩ := H
  refine newList_N (s := { s with toks := s.toks + 1 + 1 }) F1 N1 (fun h2 F2 N2 => ?_) (by unfold sizeLine; simp)
  refine args_nil ⟨C.X.keeps F2.keep, ?_⟩
  have H2 : Hp w hb (some (x, d)) L [] ((s.heap.objs.size, ({ cls := .type "list", data := .seq [Value.str (txS w1) ta, Value.str (txS w0) tb].toArray } : Obj)) :: kp) m (some fl) h2 := ⟨es1, n1, frs1, F2, fun p hp => by
    rcases List.mem_append.mp hp with q | q
    · exact N2 p (List.mem_cons_of_mem _ (List.mem_append_left _ q))
    · rcases List.mem_append.mp q with q | q
      · rcases List.mem_cons.mp q with rfl | q
        · exact N2 _ List.mem_cons_self
        · exact N2 p (List.mem_cons_of_mem _ (List.mem_append_right _ (List.mem_append_left _ q)))
      · exact N2 p (List.mem_cons_of_mem _ (List.mem_append_right _ (List.mem_append_right _ q))), S1, O1⟩
  refine words_call (s := { s with heap := h2, toks := s.toks + 1 + 1 }) (ws := [w1, w0]) (C.more rfl) hF H2 List.mem_cons_self (.cons _ _ (.cons _ _ .nil)) (fun z hz => z24 z (by
    rcases List.mem_cons.mp hz with rfl | hz
    · exact List.mem_cons_of_mem _ List.mem_cons_self
    · rw [List.mem_singleton.mp hz]; exact List.mem_cons_self)) rfl fo fun D h3 tk3 ys fl3 hy fo3 H3 => ?_
  refine List_ (args_cons (nameX_L (s := { s with heap := h3, toks := tk3 }) H3.fr h1 (args_cons (nameX_L (s := { s with heap := h3, toks := tk3 }) H3.fr h0 (args_nil ?_) law_kind lk_first d_first) rfl) law_kind lk_second d_second) rfl)
  obtain ⟨es3, n3, frs3, F3, N3, S3, O3⟩ := H3
  refine newList_N (s := { s with heap := h3, toks := tk3 }) F3 N3 (fun h4 F4 N4 => ?_) (by unfold sizeLine; simp)
  have hD : h4.IsList D ys.toArray := IsL.isList (N4 _ (List.mem_cons_of_mem _ (List.mem_append_right _ (List.mem_append_left _ List.mem_cons_self)))).1
  have hB := IsL.isList (N4 _ List.mem_cons_self).1
  cases hy with | cons _ u1 hy =>
  cases hy with | cons _ u0 hy =>
  cases hy
  refine PySem.SeqAt.eq_listAt (s := { s with heap := h4, toks := tk3 }) (e := fun _ => true) hD hB rfl hu (fun j j1 j2 => ?_) ?_
  · match j, j1 with
    | 0, _ =>
      have := PySem.SeqAt.EqAt.str_str (A := A.in1) (s := { s with heap := h4, toks := tk3 }) (txS (stemL w1)) u1 (txS (stemL w1)) t1
      rw [beq_self_eq_true] at this
      exact this
    | 1, _ =>
      have := PySem.SeqAt.EqAt.str_str (A := A.in1) (s := { s with heap := h4, toks := tk3 }) (txS (stemL w0)) u0 (txS (stemL w0)) t0
      rw [beq_self_eq_true] at this
      exact this
  · exact h h4 tk3 F4
end
end DaWalk
open PySem PySem.W PyProof.Rows DaHead
set_option Elab.async false
set_option linter.unusedVariables false
set_option linter.constructorNameAsVariable false
set_option maxRecDepth 100000
namespace DaWalk
theorem law_body : fnB (topS 24) = [lawS 0, lawS 1, lawS 2, lawS 3, lawS 4, lawS 5, lawS 6, lawS 7] := by kernel_rfl
section
variable {w : World} {hb : Heap} {L : Addr} {s : Shared} {mean : ExcName → Option Value} {mg mb : Str → Option Value} {A : Around} {E : Value → Shared → Prop} {m : Str → Option Value} {fa sl : Addr} {cd : Value} {vs : List Value} {ns : List Int}
theorem two_of {ls : List (List Nat)} (h : ls.length = 2) : ∃ a b, ls = [a, b] := len2 h
theorem law_walk {oc : Obj} {Q : Flow → Shared → Prop} (F : Fr hb L s.heap m) (N : News hb L s.heap [(L + 1, oc)]) (dc : oc.data = .cell none) (X : (KF w.params).In hb) (hh : A.handled = none)
    (T : Top qv (looseW qv lv) mean mg mb hb) (hr : Pylong w A hb) (hfr : A.frames = some [lawE L fa cd]) (hdep : A.depth + 20 < recursionLimit) (hu : A.units < cLine) (hsc : m (Str.ofString "script") = some (.ref sl)) (hsl : hb.IsList sl vs.toArray) (hi : IntsAre vs ns) (hz : ns.length ≤ 63)
    (h : ∀ h' tk m', Fr hb L h' m' → Q (.ret (.bool true)) { s with heap := h', toks := tk }) :
    wpAny (model pw w) A (execs (fnB (topS 24)) (lawE L fa cd)) Q E s := by
  rw [law_body]
  have FX : ∀ {k : Nat}, k ≤ 20 → Fx A (lawE L fa cd) [] L [] k := fun hk => ⟨hfr, rfl, by rw [law_kind]; decide, trivial, by omega⟩
  refine law_words F N dc X hh T hr hsc hsl hi hz fun m1 h1 tk1 W o ls rest oc' P pv S sv szs F1 N1 H1 hW1 nd1 => ?_
  have C1 : Cx w hb none [] ((W, o) :: rest) mean mg mb A := ⟨X, T, ⟨fun p hp => .inl (nd1 p hp), fun _ _ e => nomatch e⟩, hh⟩
  obtain ⟨w0, w1, rfl⟩ := two_of hW1.2.choose_spec.choose_spec.2.2.1
  refine law_stems (s := { s with heap := h1, toks := tk1 }) C1 (FX (by omega)) F1 N1 List.mem_cons_self hW1 H1.mw fun m2 h2 tk2 t0 t1 F2 N2 mw2 mf2 ms2 => ?_
  refine wpAny_execs_cons (wpAny_Assign_Name (law_make (s := { s with heap := h2, toks := tk2 }) C1 (FX (by omega)) F2 N2 fun x d h3 tk3 C3 H3 => ?_))
  obtain ⟨es3, n3, frs3, F3, N3, S3, O3⟩ := H3
  refine storeX_L (s := { s with heap := h3, toks := tk3 }) F3 N3 (fun h4 F4 N4 => ?_) law_kind lk_stemmer
  have H4 : Hp w hb (some (x, d)) L [] ((W, o) :: rest) (fun y => if y = Str.ofString "stemmer" then some (.ref x) else m2 y) (some (F6 [] 0 0 0 0 0)) h4 := ⟨es3, n3, frs3, F4, N4, S3, O3⟩
  have e1 : (fun y => if y = Str.ofString "stemmer" then some (Value.ref x) else m2 y) (Str.ofString "words") = some (.ref W) := by show (if _ then _ else _) = _; rw [if_neg ne_st.1]; exact mw2
  have e2 : (fun y => if y = Str.ofString "stemmer" then some (Value.ref x) else m2 y) (Str.ofString "first") = some (.str (txS (stemL w0)) t0) := by show (if _ then _ else _) = _; rw [if_neg ne_st.2.1]; exact mf2
  have e3 : (fun y => if y = Str.ofString "stemmer" then some (Value.ref x) else m2 y) (Str.ofString "second") = some (.str (txS (stemL w1)) t1) := by show (if _ then _ else _) = _; rw [if_neg ne_st.2.2]; exact ms2
  have e0 : (fun y => if y = Str.ofString "stemmer" then some (Value.ref x) else m2 y) (Str.ofString "stemmer") = some (.ref x) := if_pos rfl
  generalize (fun y => if y = Str.ofString "stemmer" then some (Value.ref x) else m2 y) = m4 at H4 e0 e1 e2 e3
  have fo : Flds (F6 [] 0 0 0 0 0) := .inl ⟨_, _, _, _, _, _, rfl⟩
  refine law_if (s := { s with heap := h4, toks := tk3 + 1 }) C3 (FX (by omega)) H4 fo e0 List.mem_cons_self hW1 e1 e2 e3 fun h5 tk5 fl5 fo5 H5 => ?_
  exact law_return (s := { s with heap := h5, toks := tk5 }) C3 (FX (by omega)) hu H5 fo5 e0 List.mem_cons_self hW1 e1 e2 e3 fun h6 tk6 F6 => h h6 tk6 _ F6
end
end DaWalk
open PySem PySem.W PyProof.Rows DaHead
set_option Elab.async false
set_option linter.unusedVariables false
set_option linter.constructorNameAsVariable false
set_option maxRecDepth 100000
namespace DaWalk
theorem law_pylong {w : World} {hb : Heap} {mean : ExcName → Option Value} {mg mb : Str → Option Value} (L fa : Addr) (cd : Value) (T : Top qv (looseW qv lv) mean mg mb hb) : Pylong w (callerA.deeper (lawE L fa cd)) hb := fun s keep =>
  PySem.PylongRoom.of (T.nolimit.keeps keep) (by show callerA.depth + 1 + Builtin.pylongFrames < recursionLimit; decide +kernel) (PySem.SeerAt.of (PySem.Heap.NoSeer.keeps (PyProof.Rows.Top.seer T (by decide +kernel)) keep) (by rfl) (by rfl) (by rfl) (by rfl) (by rfl) (by rfl))
theorem law_depth (L fa : Addr) (cd : Value) : (callerA.deeper (lawE L fa cd)).depth + 20 < recursionLimit := by
  show callerA.depth + 1 + 20 < recursionLimit
  decide +kernel
theorem law_units (L fa : Addr) (cd : Value) : (callerA.deeper (lawE L fa cd)).units < cLine := by
  show callerA.units + 3 < cLine
  decide +kernel
end DaWalk
open PySem PySem.W PyProof.Rows DaHead DaWalk
set_option Elab.async false
set_option maxRecDepth 100000 in
set_option maxHeartbeats 8000000 in
theorem PySem.Challenge.cw_ip0001_01_holds : PySem.Challenge.rw_ip0001_01.Holds := by
  w_on; refine holds_law (by decide +kernel) fun said => ?_
  refine holds_open (q := qv) (loose := lv) (Xt := XtF) (XP := XL qv []) (Yf := HK.obs) (Ya := HK.val) (YP := HK.says) (N := 11337) left (Hook.of HK) (Hook.keeps HK) (fun s e => xl_of s (Bool.and_eq_true_iff.mp e).1) XL.keeps (by rfl) (by rfl) (by rfl) (fun s e => recFacts_of (Bool.and_eq_true_iff.mp e).2) (by first | rfl | fail "x") (by first | assumption | decide +kernel) (by decide +kernel) ⟨rfl, rfl, rfl, rfl, rfl, by decide +kernel⟩ ?hw ?hc
  case hw => w_witness2
  w_strict (
    intro w s₀ s₁ mg mb G Y fa o pm cd doc dV kV ho hd hcd hD hmg hg args vals as hpre hlay hrd hwl hlo
    have KX := kIn_of Y
    refine Ground.open G ?_
    intro T B D TE TW
    refine guard_noD D (by decide +kernel) ?_
    clear D
    obtain ⟨_, _, he, B0⟩ := based_of_top T rfl hmg ho hd
    have he' : cd = _ := he
    subst he'
    clear he
    have TA := at_of_top T
    clear hmg
    wrow_args hpre hlay hrd hwl hlo
    all_goals (
      refine enter_call ?_
      w_top on
      try refine codeAny_mono ?_ (fun _ _ g => GoodW.toG g)
      have K0 := below_caller (Top.heap T)
      w_call any ho hd hcd hD T F
      clear hd TA
      k_drop
      skip))

  rename_i wl hs' hlay0' hL' hr' hl2' wa wb wsl wvs was hSL ra' w1' r0' hInt hr2' hcond1 hcond2 h₁ tk₁ oc dcell N0 X0
  have TT : Top qv (looseW qv lv) (ExcName.means s₀.heap) mg mb s₁.heap := by assumption
  refine law_walk (hb := s₁.heap) (L := s₁.heap.objs.size) (fa := fa) (sl := wsl) (vs := wvs) (ns := wl) (oc := oc) (s := { s₁ with heap := h₁, toks := tk₁ }) F N0 (dcell.trans (by kernel_rfl)) KX rfl TT (law_pylong _ _ _ TT) (by kernel_rfl) (law_depth _ _ _) (law_units _ _ _) (by kernel_rfl) hSL hInt (by omega) (fun h' tk m' F' => ?_)
  refine goodW_bool F' hg (raisesW_false ?_) ?_
  · wrow_none_raised
  · wrow_post
