import PyProof.Rows.All
import Wide.All
import OpenK.AllK
import Wide.FinOn
import Lean
import PySem.Challenge.RW_ny0310_01
set_option Elab.async false
set_option maxRecDepth 100000
set_option maxHeartbeats 2000000
set_option linter.unusedVariables false
set_option pp.deepTerms false
set_option pp.deepTerms.threshold 6
set_option compiler.extract_closed false
set_option bootstrap.genMatcherCode false
namespace Mine
section
open PySem PySem.W PyProof.Rows
set_option maxHeartbeats 8000000
noncomputable def progH : Program := PySem.Challenge.rw_ny0310_01.row.toRowW.prog
noncomputable def stmtAt (k : Nat) : Stmt := progH.main.body[k]?.getD (Stmt.Pass default)
noncomputable def stmtIn (s : Stmt) (k : Nat) : Stmt := match s with
 | .ClassDef _ _ _ body .. => body[k]?.getD (Stmt.Pass default)
 | _ => s
noncomputable def defArgs (s : Stmt) : Arguments := match s with
 | .FunctionDef _ a .. => a
 | _ => default
noncomputable def defBody (s : Stmt) : List Stmt := match s with
 | .FunctionDef _ _ b .. => b
 | _ => []
noncomputable def defScope (s : Stmt) : Scope := match s with
 | .FunctionDef _ _ _ _ _ _ sc .. => sc
 | _ => default
noncomputable def hd.view_39 : Program := { progH with main := { progH.main with body := [stmtAt 0, stmtAt 2, stmtAt 3, stmtAt 4, stmtAt 5, stmtAt 6, stmtAt 8, stmtAt 9, stmtAt 10, stmtAt 12, stmtAt 14, stmtAt 17, stmtAt 19, stmtAt 20, stmtAt 21, stmtAt 22, stmtAt 23, stmtAt 25, stmtAt 26, stmtAt 27, stmtAt 28, stmtAt 29, stmtAt 30] } }
noncomputable def hd.heap_39 : Params → Frag := fun P => (nat_lit 2, Obj.mk Value.none none (Data.dict #[]) #[]) :: (nat_lit 3, Obj.mk (Value.type "dict") none (Data.dict #[DictEntry.mk (PyData.keyHash P (Str.ofString "__name__")) (Value.str (Str.ofString "__name__") 165) (Value.str (Str.ofString "law_ny0310_01") 477), DictEntry.mk (PyData.keyHash P (Str.ofString "__doc__")) (Value.str (Str.ofString "__doc__") 166) Value.none, DictEntry.mk (PyData.keyHash P (Str.ofString "__package__")) (Value.str (Str.ofString "__package__") 167) Value.none, DictEntry.mk (PyData.keyHash P (Str.ofString "__loader__")) (Value.str (Str.ofString "__loader__") 168) (Value.builtin "__main__.__loader__#opaque"), DictEntry.mk (PyData.keyHash P (Str.ofString "__spec__")) (Value.str (Str.ofString "__spec__") 169) Value.none, DictEntry.mk (PyData.keyHash P (Str.ofString "__annotations__")) (Value.str (Str.ofString "__annotations__") 170) (Value.ref 6), DictEntry.mk (PyData.keyHash P (Str.ofString "__builtins__")) (Value.str (Str.ofString "__builtins__") 171) (Value.ref 4), DictEntry.mk (PyData.keyHash P (Str.ofString "__file__")) (Value.str (Str.ofString "__file__") 173) (Value.str (Str.ofString "/claim/cut.py") 172), DictEntry.mk (PyData.keyHash P (Str.ofString "__cached__")) (Value.str (Str.ofString "__cached__") 174) Value.none, DictEntry.mk (PyData.keyHash P (Str.ofString "_wall")) (Value.str (Str.ofString "_wall") 193) (Value.ref 21), DictEntry.mk (PyData.keyHash P (Str.ofString "_MAX_STRING_SIZE")) (Value.str (Str.ofString "_MAX_STRING_SIZE") 197) (Value.int 40 196), DictEntry.mk (PyData.keyHash P (Str.ofString "_MOVE_COST")) (Value.str (Str.ofString "_MOVE_COST") 199) (Value.int 2 198), DictEntry.mk (PyData.keyHash P (Str.ofString "_CASE_COST")) (Value.str (Str.ofString "_CASE_COST") 201) (Value.int 1 200), DictEntry.mk (PyData.keyHash P (Str.ofString "_substitution_cost")) (Value.str (Str.ofString "_substitution_cost") 209) (Value.ref 28), DictEntry.mk (PyData.keyHash P (Str.ofString "_levenshtein_distance")) (Value.str (Str.ofString "_levenshtein_distance") 229) (Value.ref 35), DictEntry.mk (PyData.keyHash P (Str.ofString "_buffer")) (Value.str (Str.ofString "_buffer") 239) (Value.ref 42), DictEntry.mk (PyData.keyHash P (Str.ofString "_truth")) (Value.str (Str.ofString "_truth") 247) (Value.ref 49), DictEntry.mk (PyData.keyHash P (Str.ofString "_B64")) (Value.str (Str.ofString "_B64") 249) (Value.bytes #[65, 66, 67, 68, 69, 70, 71, 72, 73, 74, 75, 76, 77, 78, 79, 80, 81, 82, 83, 84, 85, 86, 87, 88, 89, 90, 97, 98, 99, 100, 101, 102, 103, 104, 105, 106, 107, 108, 109, 110, 111, 112, 113, 114, 115, 116, 117, 118, 119, 120, 121, 122, 48, 49, 50, 51, 52, 53, 54, 55, 56, 57, 43, 47] 248), DictEntry.mk (PyData.keyHash P (Str.ofString "b2a_base64")) (Value.str (Str.ofString "b2a_base64") 263) (Value.ref 57), DictEntry.mk (PyData.keyHash P (Str.ofString "_NO_SEP")) (Value.str (Str.ofString "_NO_SEP") 264) (Value.ref 58), DictEntry.mk (PyData.keyHash P (Str.ofString "b2a_hex")) (Value.str (Str.ofString "b2a_hex") 275) (Value.ref 66), DictEntry.mk (PyData.keyHash P (Str.ofString "hexlify")) (Value.str (Str.ofString "hexlify") 276) (Value.ref 66), DictEntry.mk (PyData.keyHash P (Str.ofString "b64encode")) (Value.str (Str.ofString "b64encode") 287) (Value.ref 74), DictEntry.mk (PyData.keyHash P (Str.ofString "b16encode")) (Value.str (Str.ofString "b16encode") 294) (Value.ref 81), DictEntry.mk (PyData.keyHash P (Str.ofString "_NODE_OUT")) (Value.str (Str.ofString "_NODE_OUT") 299) (Value.int (-1) 298), DictEntry.mk (PyData.keyHash P (Str.ofString "_NODE_DONE")) (Value.str (Str.ofString "_NODE_DONE") 302) (Value.int (-2) 301), DictEntry.mk (PyData.keyHash P (Str.ofString "_NodeInfo")) (Value.str (Str.ofString "_NodeInfo") 339) (Value.ref 100), DictEntry.mk (PyData.keyHash P (Str.ofString "CycleError")) (Value.str (Str.ofString "CycleError") 357) (Value.ref 115), DictEntry.mk (PyData.keyHash P (Str.ofString "TopologicalSorter")) (Value.str (Str.ofString "TopologicalSorter") 476) (Value.ref 197), DictEntry.mk (PyData.keyHash P (Str.ofString "_law_sixes")) (Value.str (Str.ofString "_law_sixes") 491) (Value.ref 208), DictEntry.mk (PyData.keyHash P (Str.ofString "_law_halves")) (Value.str (Str.ofString "_law_halves") 497) (Value.ref 213), DictEntry.mk (PyData.keyHash P (Str.ofString "_law_text")) (Value.str (Str.ofString "_law_text") 503) (Value.ref 218), DictEntry.mk (PyData.keyHash P (Str.ofString "_law_sign")) (Value.str (Str.ofString "_law_sign") 511) (Value.ref 225), DictEntry.mk (PyData.keyHash P (Str.ofString "_law_price")) (Value.str (Str.ofString "_law_price") 520) (Value.ref 232), DictEntry.mk (PyData.keyHash P (Str.ofString "law")) (Value.str (Str.ofString "law") 526) (Value.ref 237)] 35) #[]) :: (nat_lit 15, Obj.mk (Value.type "tuple") none (Data.seq #[]) #[]) :: (nat_lit 17, Obj.mk (Value.type "tuple") none (Data.seq #[Value.str (Str.ofString "k") 190]) #[]) :: (nat_lit 18, Obj.mk (Value.type "tuple") none (Data.seq #[]) #[]) :: (nat_lit 20, Obj.mk (Value.type "code") none (Data.fields #[Value.str (Str.ofString "_wall") 187, Value.str (Str.ofString "_wall") 188, Value.str (Str.ofString "/claim/cut.py") 189, Value.int 1 0, Value.int 1 0, Value.int 0 0, Value.int 0 0, Value.int 3 0, Value.ref 15, Value.bool true, Value.int 181 0, Value.ref 16, Value.none, Value.ref 17, Value.ref 18, Value.ref 19, Value.int 191 0, Value.int 1 0, Value.str (Str.ofString "/claim/cut.py") 192]) #[]) :: (nat_lit 21, Obj.mk (Value.type "function") none (Data.func (FuncData.mk (Str.ofString "_wall") (Str.ofString "_wall") (defArgs (stmtAt 0)) (FuncBody.stmts (defBody (stmtAt 0))) (defScope (stmtAt 0)) 3 [] Value.none Value.none Value.none (Value.str (Str.ofString "__main__") 164) none (Value.ref 20) Value.none 0)) #[]) :: (nat_lit 22, Obj.mk (Value.type "tuple") none (Data.seq #[]) #[]) :: (nat_lit 24, Obj.mk (Value.type "tuple") none (Data.seq #[Value.str (Str.ofString "ch_a") 205, Value.str (Str.ofString "ch_b") 206]) #[]) :: (nat_lit 25, Obj.mk (Value.type "tuple") none (Data.seq #[]) #[]) :: (nat_lit 27, Obj.mk (Value.type "code") none (Data.fields #[Value.str (Str.ofString "_substitution_cost") 202, Value.str (Str.ofString "_substitution_cost") 203, Value.str (Str.ofString "/claim/cut.py") 204, Value.int 8 0, Value.int 2 0, Value.int 0 0, Value.int 0 0, Value.int 3 0, Value.ref 22, Value.bool true, Value.int 181 0, Value.ref 23, Value.none, Value.ref 24, Value.ref 25, Value.ref 26, Value.int 207 0, Value.int 8 0, Value.str (Str.ofString "/claim/cut.py") 208]) #[]) :: (nat_lit 28, Obj.mk (Value.type "function") none (Data.func (FuncData.mk (Str.ofString "_substitution_cost") (Str.ofString "_substitution_cost") (defArgs (stmtAt 5)) (FuncBody.stmts (defBody (stmtAt 5))) (defScope (stmtAt 5)) 3 [] Value.none Value.none Value.none (Value.str (Str.ofString "cpy313.traceback") 194) none (Value.ref 27) Value.none 0)) #[]) :: (nat_lit 29, Obj.mk (Value.type "tuple") none (Data.seq #[]) #[]) :: (nat_lit 31, Obj.mk (Value.type "tuple") none (Data.seq #[Value.str (Str.ofString "a") 213, Value.str (Str.ofString "b") 214, Value.str (Str.ofString "max_cost") 215, Value.str (Str.ofString "pre") 216, Value.str (Str.ofString "post") 217, Value.str (Str.ofString "row") 218, Value.str (Str.ofString "result") 219, Value.str (Str.ofString "bindex") 220, Value.str (Str.ofString "bchar") 221, Value.str (Str.ofString "distance") 222, Value.str (Str.ofString "minimum") 223, Value.str (Str.ofString "index") 224, Value.str (Str.ofString "substitute") 225, Value.str (Str.ofString "insert_delete") 226]) #[]) :: (nat_lit 32, Obj.mk (Value.type "tuple") none (Data.seq #[]) #[]) :: (nat_lit 34, Obj.mk (Value.type "code") none (Data.fields #[Value.str (Str.ofString "_levenshtein_distance") 210, Value.str (Str.ofString "_levenshtein_distance") 211, Value.str (Str.ofString "/claim/cut.py") 212, Value.int 14 0, Value.int 3 0, Value.int 0 0, Value.int 0 0, Value.int 3 0, Value.ref 29, Value.bool true, Value.int 181 0, Value.ref 30, Value.none, Value.ref 31, Value.ref 32, Value.ref 33, Value.int 227 0, Value.int 14 0, Value.str (Str.ofString "/claim/cut.py") 228]) #[]) :: (nat_lit 35, Obj.mk (Value.type "function") none (Data.func (FuncData.mk (Str.ofString "_levenshtein_distance") (Str.ofString "_levenshtein_distance") (defArgs (stmtAt 6)) (FuncBody.stmts (defBody (stmtAt 6))) (defScope (stmtAt 6)) 3 [] Value.none Value.none Value.none (Value.str (Str.ofString "cpy313.traceback") 194) none (Value.ref 34) Value.none 0)) #[]) :: (nat_lit 36, Obj.mk (Value.type "tuple") none (Data.seq #[]) #[]) :: (nat_lit 38, Obj.mk (Value.type "tuple") none (Data.seq #[Value.str (Str.ofString "data") 235, Value.str (Str.ofString "t") 236]) #[]) :: (nat_lit 39, Obj.mk (Value.type "tuple") none (Data.seq #[]) #[]) :: (nat_lit 41, Obj.mk (Value.type "code") none (Data.fields #[Value.str (Str.ofString "_buffer") 232, Value.str (Str.ofString "_buffer") 233, Value.str (Str.ofString "/claim/cut.py") 234, Value.int 53 0, Value.int 1 0, Value.int 0 0, Value.int 0 0, Value.int 3 0, Value.ref 36, Value.bool true, Value.int 181 0, Value.ref 37, Value.none, Value.ref 38, Value.ref 39, Value.ref 40, Value.int 237 0, Value.int 53 0, Value.str (Str.ofString "/claim/cut.py") 238]) #[]) :: (nat_lit 42, Obj.mk (Value.type "function") none (Data.func (FuncData.mk (Str.ofString "_buffer") (Str.ofString "_buffer") (defArgs (stmtAt 8)) (FuncBody.stmts (defBody (stmtAt 8))) (defScope (stmtAt 8)) 3 [] Value.none Value.none Value.none (Value.str (Str.ofString "binascii") 230) none (Value.ref 41) Value.none 0)) #[]) :: (nat_lit 43, Obj.mk (Value.type "tuple") none (Data.seq #[]) #[]) :: (nat_lit 45, Obj.mk (Value.type "tuple") none (Data.seq #[Value.str (Str.ofString "x") 243, Value.str (Str.ofString "t") 244]) #[]) :: (nat_lit 46, Obj.mk (Value.type "tuple") none (Data.seq #[]) #[]) :: (nat_lit 48, Obj.mk (Value.type "code") none (Data.fields #[Value.str (Str.ofString "_truth") 240, Value.str (Str.ofString "_truth") 241, Value.str (Str.ofString "/claim/cut.py") 242, Value.int 60 0, Value.int 1 0, Value.int 0 0, Value.int 0 0, Value.int 3 0, Value.ref 43, Value.bool true, Value.int 181 0, Value.ref 44, Value.none, Value.ref 45, Value.ref 46, Value.ref 47, Value.int 245 0, Value.int 60 0, Value.str (Str.ofString "/claim/cut.py") 246]) #[]) :: (nat_lit 49, Obj.mk (Value.type "function") none (Data.func (FuncData.mk (Str.ofString "_truth") (Str.ofString "_truth") (defArgs (stmtAt 9)) (FuncBody.stmts (defBody (stmtAt 9))) (defScope (stmtAt 9)) 3 [] Value.none Value.none Value.none (Value.str (Str.ofString "binascii") 230) none (Value.ref 48) Value.none 0)) #[]) :: (nat_lit 50, Obj.mk (Value.type "dict") none (Data.dict #[DictEntry.mk (PyData.keyHash P (Str.ofString "newline")) (Value.str (Str.ofString "newline") 250) (Value.bool true)] 1) #[]) :: (nat_lit 51, Obj.mk (Value.type "tuple") none (Data.seq #[]) #[]) :: (nat_lit 53, Obj.mk (Value.type "tuple") none (Data.seq #[Value.str (Str.ofString "data") 254, Value.str (Str.ofString "newline") 255, Value.str (Str.ofString "bin_data") 256, Value.str (Str.ofString "out") 257, Value.str (Str.ofString "leftbits") 258, Value.str (Str.ofString "leftchar") 259, Value.str (Str.ofString "b") 260]) #[]) :: (nat_lit 54, Obj.mk (Value.type "tuple") none (Data.seq #[]) #[]) :: (nat_lit 56, Obj.mk (Value.type "code") none (Data.fields #[Value.str (Str.ofString "b2a_base64") 251, Value.str (Str.ofString "b2a_base64") 252, Value.str (Str.ofString "/claim/cut.py") 253, Value.int 66 0, Value.int 1 0, Value.int 1 0, Value.int 1 0, Value.int 3 0, Value.ref 51, Value.bool true, Value.int 181 0, Value.ref 52, Value.none, Value.ref 53, Value.ref 54, Value.ref 55, Value.int 261 0, Value.int 66 0, Value.str (Str.ofString "/claim/cut.py") 262]) #[]) :: (nat_lit 57, Obj.mk (Value.type "function") none (Data.func (FuncData.mk (Str.ofString "b2a_base64") (Str.ofString "b2a_base64") (defArgs (stmtAt 11)) (FuncBody.stmts (defBody (stmtAt 11))) (defScope (stmtAt 11)) 3 [] Value.none (Value.ref 50) Value.none (Value.str (Str.ofString "binascii") 230) none (Value.ref 56) Value.none 0)) #[]) :: (nat_lit 58, Obj.mk (Value.type "object") none Data.plain #[]) :: (nat_lit 59, Obj.mk (Value.type "tuple") none (Data.seq #[Value.ref 58, Value.int 1 265]) #[]) :: (nat_lit 60, Obj.mk (Value.type "tuple") none (Data.seq #[]) #[]) :: (nat_lit 62, Obj.mk (Value.type "tuple") none (Data.seq #[Value.str (Str.ofString "data") 269, Value.str (Str.ofString "sep") 270, Value.str (Str.ofString "bytes_per_sep") 271, Value.str (Str.ofString "t") 272]) #[]) :: (nat_lit 63, Obj.mk (Value.type "tuple") none (Data.seq #[]) #[]) :: (nat_lit 65, Obj.mk (Value.type "code") none (Data.fields #[Value.str (Str.ofString "b2a_hex") 266, Value.str (Str.ofString "b2a_hex") 267, Value.str (Str.ofString "/claim/cut.py") 268, Value.int 89 0, Value.int 3 0, Value.int 0 0, Value.int 0 0, Value.int 3 0, Value.ref 60, Value.bool true, Value.int 181 0, Value.ref 61, Value.none, Value.ref 62, Value.ref 63, Value.ref 64, Value.int 273 0, Value.int 89 0, Value.str (Str.ofString "/claim/cut.py") 274]) #[]) :: (nat_lit 66, Obj.mk (Value.type "function") none (Data.func (FuncData.mk (Str.ofString "b2a_hex") (Str.ofString "b2a_hex") (defArgs (stmtAt 13)) (FuncBody.stmts (defBody (stmtAt 13))) (defScope (stmtAt 13)) 3 [] (Value.ref 59) Value.none Value.none (Value.str (Str.ofString "binascii") 230) none (Value.ref 65) Value.none 0)) #[]) :: (nat_lit 67, Obj.mk (Value.type "tuple") none (Data.seq #[Value.none]) #[]) :: (nat_lit 68, Obj.mk (Value.type "tuple") none (Data.seq #[]) #[]) :: (nat_lit 70, Obj.mk (Value.type "tuple") none (Data.seq #[Value.str (Str.ofString "s") 282, Value.str (Str.ofString "altchars") 283, Value.str (Str.ofString "encoded") 284]) #[]) :: (nat_lit 71, Obj.mk (Value.type "tuple") none (Data.seq #[]) #[]) :: (nat_lit 73, Obj.mk (Value.type "code") none (Data.fields #[Value.str (Str.ofString "b64encode") 279, Value.str (Str.ofString "b64encode") 280, Value.str (Str.ofString "/claim/cut.py") 281, Value.int 107 0, Value.int 2 0, Value.int 0 0, Value.int 0 0, Value.int 3 0, Value.ref 68, Value.bool true, Value.int 181 0, Value.ref 69, Value.none, Value.ref 70, Value.ref 71, Value.ref 72, Value.int 285 0, Value.int 107 0, Value.str (Str.ofString "/claim/cut.py") 286]) #[]) :: (nat_lit 74, Obj.mk (Value.type "function") none (Data.func (FuncData.mk (Str.ofString "b64encode") (Str.ofString "b64encode") (defArgs (stmtAt 16)) (FuncBody.stmts (defBody (stmtAt 16))) (defScope (stmtAt 16)) 3 [] (Value.ref 67) Value.none Value.none (Value.str (Str.ofString "cpy313.base64") 277) none (Value.ref 73) Value.none 0)) #[]) :: (nat_lit 75, Obj.mk (Value.type "tuple") none (Data.seq #[]) #[]) :: (nat_lit 77, Obj.mk (Value.type "tuple") none (Data.seq #[Value.str (Str.ofString "s") 291]) #[]) :: (nat_lit 78, Obj.mk (Value.type "tuple") none (Data.seq #[]) #[]) :: (nat_lit 80, Obj.mk (Value.type "code") none (Data.fields #[Value.str (Str.ofString "b16encode") 288, Value.str (Str.ofString "b16encode") 289, Value.str (Str.ofString "/claim/cut.py") 290, Value.int 113 0, Value.int 1 0, Value.int 0 0, Value.int 0 0, Value.int 3 0, Value.ref 75, Value.bool true, Value.int 181 0, Value.ref 76, Value.none, Value.ref 77, Value.ref 78, Value.ref 79, Value.int 292 0, Value.int 113 0, Value.str (Str.ofString "/claim/cut.py") 293]) #[]) :: (nat_lit 81, Obj.mk (Value.type "function") none (Data.func (FuncData.mk (Str.ofString "b16encode") (Str.ofString "b16encode") (defArgs (stmtAt 17)) (FuncBody.stmts (defBody (stmtAt 17))) (defScope (stmtAt 17)) 3 [] Value.none Value.none Value.none (Value.str (Str.ofString "cpy313.base64") 277) none (Value.ref 80) Value.none 0)) #[]) :: (nat_lit 89, Obj.mk (Value.type "tuple") none (Data.seq #[Value.str (Str.ofString "node") 315, Value.str (Str.ofString "npredecessors") 316, Value.str (Str.ofString "successors") 317]) #[]) :: (nat_lit 90, Obj.mk (Value.type "tuple") none (Data.seq #[]) #[]) :: (nat_lit 92, Obj.mk (Value.type "tuple") none (Data.seq #[Value.str (Str.ofString "self") 322, Value.str (Str.ofString "node") 323]) #[]) :: (nat_lit 93, Obj.mk (Value.type "tuple") none (Data.seq #[]) #[]) :: (nat_lit 95, Obj.mk (Value.type "code") none (Data.fields #[Value.str (Str.ofString "__init__") 319, Value.str (Str.ofString "_NodeInfo.__init__") 320, Value.str (Str.ofString "/claim/cut.py") 321, Value.int 121 0, Value.int 2 0, Value.int 0 0, Value.int 0 0, Value.int 3 0, Value.ref 90, Value.bool true, Value.int 181 0, Value.ref 91, Value.none, Value.ref 92, Value.ref 93, Value.ref 94, Value.int 324 0, Value.int 121 0, Value.str (Str.ofString "/claim/cut.py") 325]) #[]) :: (nat_lit 96, Obj.mk (Value.type "function") none (Data.func (FuncData.mk (Str.ofString "__init__") (Str.ofString "_NodeInfo.__init__") (defArgs (stmtIn (stmtAt 21) 1)) (FuncBody.stmts (defBody (stmtIn (stmtAt 21) 1))) (defScope (stmtIn (stmtAt 21) 1)) 3 [] Value.none Value.none Value.none (Value.str (Str.ofString "cpy313.graphlib") 295) none (Value.ref 95) Value.none 0)) #[]) :: (nat_lit 97, Obj.mk (Value.type "tuple") none (Data.seq #[Value.str (Str.ofString "node") 327, Value.str (Str.ofString "npredecessors") 328, Value.str (Str.ofString "successors") 329]) #[]) :: (nat_lit 99, Obj.mk (Value.type "dict") none (Data.dict #[DictEntry.mk (PyData.keyHash P (Str.ofString "__module__")) (Value.str (Str.ofString "__module__") 310) (Value.str (Str.ofString "cpy313.graphlib") 295), DictEntry.mk (PyData.keyHash P (Str.ofString "__firstlineno__")) (Value.str (Str.ofString "__firstlineno__") 314) (Value.int 118 313), DictEntry.mk (PyData.keyHash P (Str.ofString "__slots__")) (Value.str (Str.ofString "__slots__") 318) (Value.ref 89), DictEntry.mk (PyData.keyHash P (Str.ofString "__init__")) (Value.str (Str.ofString "__init__") 326) (Value.ref 96), DictEntry.mk (PyData.keyHash P (Str.ofString "__static_attributes__")) (Value.str (Str.ofString "__static_attributes__") 330) (Value.ref 97), DictEntry.mk (PyData.keyHash P (Str.ofString "node")) (Value.str (Str.ofString "node") 332) (Value.ref 101), DictEntry.mk (PyData.keyHash P (Str.ofString "npredecessors")) (Value.str (Str.ofString "npredecessors") 334) (Value.ref 102), DictEntry.mk (PyData.keyHash P (Str.ofString "successors")) (Value.str (Str.ofString "successors") 336) (Value.ref 103), DictEntry.mk (PyData.keyHash P (Str.ofString "__doc__")) (Value.str (Str.ofString "__doc__") 337) Value.none] 5) #[]) :: (nat_lit 100, Obj.mk (Value.type "type") none (Data.cls (ClassData.mk (Str.ofString "_NodeInfo") [Value.type "object"] [Value.ref 100, Value.type "object"] 99 (Str.ofString "_NodeInfo") false [Str.ofString "node", Str.ofString "npredecessors", Str.ofString "successors"] [] false none false)) #[none, none, some (Value.str (Str.ofString "_NodeInfo") 303), some (Value.str (Str.ofString "_NodeInfo") 311), some (Value.builtin "object.__new__"), some (Value.bool false)]) :: (nat_lit 101, Obj.mk (Value.type "member_descriptor") none (Data.fields #[Value.str (Str.ofString "node") 331, Value.ref 100, Value.builtin "proto.slot", Value.builtin "proto.slot#set", Value.int 2 0]) #[]) :: (nat_lit 102, Obj.mk (Value.type "member_descriptor") none (Data.fields #[Value.str (Str.ofString "npredecessors") 333, Value.ref 100, Value.builtin "proto.slot", Value.builtin "proto.slot#set", Value.int 1 0]) #[]) :: (nat_lit 103, Obj.mk (Value.type "member_descriptor") none (Data.fields #[Value.str (Str.ofString "successors") 335, Value.ref 100, Value.builtin "proto.slot", Value.builtin "proto.slot#set", Value.int 0 0]) #[]) :: (nat_lit 106, Obj.mk (Value.type "tuple") none (Data.seq #[Value.type "ValueError"]) #[]) :: (nat_lit 113, Obj.mk (Value.type "tuple") none (Data.seq #[]) #[]) :: (nat_lit 114, Obj.mk (Value.type "dict") none (Data.dict #[DictEntry.mk (PyData.keyHash P (Str.ofString "__module__")) (Value.str (Str.ofString "__module__") 347) (Value.str (Str.ofString "cpy313.graphlib") 295), DictEntry.mk (PyData.keyHash P (Str.ofString "__firstlineno__")) (Value.str (Str.ofString "__firstlineno__") 351) (Value.int 125 350), DictEntry.mk (PyData.keyHash P (Str.ofString "__static_attributes__")) (Value.str (Str.ofString "__static_attributes__") 352) (Value.ref 113), DictEntry.mk (PyData.keyHash P (Str.ofString "__weakref__")) (Value.str (Str.ofString "__weakref__") 354) (Value.ref 116), DictEntry.mk (PyData.keyHash P (Str.ofString "__doc__")) (Value.str (Str.ofString "__doc__") 355) Value.none] 3) #[]) :: (nat_lit 115, Obj.mk (Value.type "type") none (Data.cls (ClassData.mk (Str.ofString "CycleError") [Value.type "ValueError"] [Value.ref 115, Value.type "ValueError", Value.type "Exception", Value.type "BaseException", Value.type "object"] 114 (Str.ofString "CycleError") true [] [] false none false)) #[some (Value.ref 106), none, some (Value.str (Str.ofString "CycleError") 340), some (Value.str (Str.ofString "CycleError") 348), some (Value.builtin "ValueError.__new__"), some (Value.bool true)]) :: (nat_lit 116, Obj.mk (Value.type "getset_descriptor") none (Data.fields #[Value.str (Str.ofString "__weakref__") 353, Value.ref 115, Value.builtin "ExceptionGroup.__weakref__", Value.none]) #[]) :: (nat_lit 126, Obj.mk (Value.type "tuple") none (Data.seq #[Value.none]) #[]) :: (nat_lit 127, Obj.mk (Value.type "tuple") none (Data.seq #[]) #[]) :: (nat_lit 129, Obj.mk (Value.type "tuple") none (Data.seq #[Value.str (Str.ofString "self") 373, Value.str (Str.ofString "graph") 374, Value.str (Str.ofString "node") 375, Value.str (Str.ofString "predecessors") 376]) #[]) :: (nat_lit 130, Obj.mk (Value.type "tuple") none (Data.seq #[]) #[]) :: (nat_lit 132, Obj.mk (Value.type "code") none (Data.fields #[Value.str (Str.ofString "__init__") 370, Value.str (Str.ofString "TopologicalSorter.__init__") 371, Value.str (Str.ofString "/claim/cut.py") 372, Value.int 129 0, Value.int 2 0, Value.int 0 0, Value.int 0 0, Value.int 3 0, Value.ref 127, Value.bool true, Value.int 181 0, Value.ref 128, Value.none, Value.ref 129, Value.ref 130, Value.ref 131, Value.int 377 0, Value.int 129 0, Value.str (Str.ofString "/claim/cut.py") 378]) #[]) :: (nat_lit 133, Obj.mk (Value.type "function") none (Data.func (FuncData.mk (Str.ofString "__init__") (Str.ofString "TopologicalSorter.__init__") (defArgs (stmtIn (stmtAt 23) 0)) (FuncBody.stmts (defBody (stmtIn (stmtAt 23) 0))) (defScope (stmtIn (stmtAt 23) 0)) 3 [] (Value.ref 126) Value.none Value.none (Value.str (Str.ofString "cpy313.graphlib") 295) none (Value.ref 132) Value.none 0)) #[]) :: (nat_lit 134, Obj.mk (Value.type "tuple") none (Data.seq #[]) #[]) :: (nat_lit 136, Obj.mk (Value.type "tuple") none (Data.seq #[Value.str (Str.ofString "self") 383, Value.str (Str.ofString "node") 384, Value.str (Str.ofString "result") 385]) #[]) :: (nat_lit 137, Obj.mk (Value.type "tuple") none (Data.seq #[]) #[]) :: (nat_lit 139, Obj.mk (Value.type "code") none (Data.fields #[Value.str (Str.ofString "_get_nodeinfo") 380, Value.str (Str.ofString "TopologicalSorter._get_nodeinfo") 381, Value.str (Str.ofString "/claim/cut.py") 382, Value.int 138 0, Value.int 2 0, Value.int 0 0, Value.int 0 0, Value.int 3 0, Value.ref 134, Value.bool true, Value.int 181 0, Value.ref 135, Value.none, Value.ref 136, Value.ref 137, Value.ref 138, Value.int 386 0, Value.int 138 0, Value.str (Str.ofString "/claim/cut.py") 387]) #[]) :: (nat_lit 140, Obj.mk (Value.type "function") none (Data.func (FuncData.mk (Str.ofString "_get_nodeinfo") (Str.ofString "TopologicalSorter._get_nodeinfo") (defArgs (stmtIn (stmtAt 23) 1)) (FuncBody.stmts (defBody (stmtIn (stmtAt 23) 1))) (defScope (stmtIn (stmtAt 23) 1)) 3 [] Value.none Value.none Value.none (Value.str (Str.ofString "cpy313.graphlib") 295) none (Value.ref 139) Value.none 0)) #[]) :: (nat_lit 141, Obj.mk (Value.type "tuple") none (Data.seq #[]) #[]) :: (nat_lit 143, Obj.mk (Value.type "tuple") none (Data.seq #[Value.str (Str.ofString "self") 392, Value.str (Str.ofString "node") 393, Value.str (Str.ofString "predecessors") 394, Value.str (Str.ofString "nodeinfo") 395, Value.str (Str.ofString "pred") 396, Value.str (Str.ofString "pred_info") 397]) #[]) :: (nat_lit 144, Obj.mk (Value.type "tuple") none (Data.seq #[]) #[]) :: (nat_lit 146, Obj.mk (Value.type "code") none (Data.fields #[Value.str (Str.ofString "add") 389, Value.str (Str.ofString "TopologicalSorter.add") 390, Value.str (Str.ofString "/claim/cut.py") 391, Value.int 143 0, Value.int 2 0, Value.int 0 0, Value.int 0 0, Value.int 7 0, Value.ref 141, Value.bool true, Value.int 181 0, Value.ref 142, Value.none, Value.ref 143, Value.ref 144, Value.ref 145, Value.int 398 0, Value.int 143 0, Value.str (Str.ofString "/claim/cut.py") 399]) #[]) :: (nat_lit 147, Obj.mk (Value.type "function") none (Data.func (FuncData.mk (Str.ofString "add") (Str.ofString "TopologicalSorter.add") (defArgs (stmtIn (stmtAt 23) 2)) (FuncBody.stmts (defBody (stmtIn (stmtAt 23) 2))) (defScope (stmtIn (stmtAt 23) 2)) 3 [] Value.none Value.none Value.none (Value.str (Str.ofString "cpy313.graphlib") 295) none (Value.ref 146) Value.none 0)) #[]) :: (nat_lit 148, Obj.mk (Value.type "tuple") none (Data.seq #[]) #[]) :: (nat_lit 151, Obj.mk (Value.type "code") none (Data.fields #[Value.str (Str.ofString "prepare") 401, Value.str (Str.ofString "TopologicalSorter.prepare") 402, Value.str (Str.ofString "/claim/cut.py") 403, Value.int 152 0, Value.int 1 0, Value.int 0 0, Value.int 0 0, Value.int 3 0, Value.ref 148, Value.bool true, Value.int 181 0, Value.ref 149, Value.none, Value.none, Value.none, Value.ref 150, Value.int 404 0, Value.int 152 0, Value.str (Str.ofString "/claim/cut.py") 405]) #[]) :: (nat_lit 152, Obj.mk (Value.type "function") none (Data.func (FuncData.mk (Str.ofString "prepare") (Str.ofString "TopologicalSorter.prepare") (defArgs (stmtIn (stmtAt 23) 3)) (FuncBody.stmts (defBody (stmtIn (stmtAt 23) 3))) (defScope (stmtIn (stmtAt 23) 3)) 3 [] Value.none Value.none Value.none (Value.str (Str.ofString "cpy313.graphlib") 295) none (Value.ref 151) Value.none 0)) #[]) :: (nat_lit 153, Obj.mk (Value.type "tuple") none (Data.seq #[]) #[]) :: (nat_lit 155, Obj.mk (Value.type "tuple") none (Data.seq #[Value.str (Str.ofString "self") 410, Value.str (Str.ofString "result") 411, Value.str (Str.ofString "n2i") 412, Value.str (Str.ofString "node") 413]) #[]) :: (nat_lit 156, Obj.mk (Value.type "tuple") none (Data.seq #[]) #[]) :: (nat_lit 158, Obj.mk (Value.type "code") none (Data.fields #[Value.str (Str.ofString "get_ready") 407, Value.str (Str.ofString "TopologicalSorter.get_ready") 408, Value.str (Str.ofString "/claim/cut.py") 409, Value.int 160 0, Value.int 1 0, Value.int 0 0, Value.int 0 0, Value.int 3 0, Value.ref 153, Value.bool true, Value.int 181 0, Value.ref 154, Value.none, Value.ref 155, Value.ref 156, Value.ref 157, Value.int 414 0, Value.int 160 0, Value.str (Str.ofString "/claim/cut.py") 415]) #[]) :: (nat_lit 159, Obj.mk (Value.type "function") none (Data.func (FuncData.mk (Str.ofString "get_ready") (Str.ofString "TopologicalSorter.get_ready") (defArgs (stmtIn (stmtAt 23) 4)) (FuncBody.stmts (defBody (stmtIn (stmtAt 23) 4))) (defScope (stmtIn (stmtAt 23) 4)) 3 [] Value.none Value.none Value.none (Value.str (Str.ofString "cpy313.graphlib") 295) none (Value.ref 158) Value.none 0)) #[]) :: (nat_lit 160, Obj.mk (Value.type "tuple") none (Data.seq #[]) #[]) :: (nat_lit 162, Obj.mk (Value.type "tuple") none (Data.seq #[Value.str (Str.ofString "self") 420]) #[]) :: (nat_lit 163, Obj.mk (Value.type "tuple") none (Data.seq #[]) #[]) :: (nat_lit 165, Obj.mk (Value.type "code") none (Data.fields #[Value.str (Str.ofString "is_active") 417, Value.str (Str.ofString "TopologicalSorter.is_active") 418, Value.str (Str.ofString "/claim/cut.py") 419, Value.int 171 0, Value.int 1 0, Value.int 0 0, Value.int 0 0, Value.int 3 0, Value.ref 160, Value.bool true, Value.int 181 0, Value.ref 161, Value.none, Value.ref 162, Value.ref 163, Value.ref 164, Value.int 421 0, Value.int 171 0, Value.str (Str.ofString "/claim/cut.py") 422]) #[]) :: (nat_lit 166, Obj.mk (Value.type "function") none (Data.func (FuncData.mk (Str.ofString "is_active") (Str.ofString "TopologicalSorter.is_active") (defArgs (stmtIn (stmtAt 23) 5)) (FuncBody.stmts (defBody (stmtIn (stmtAt 23) 5))) (defScope (stmtIn (stmtAt 23) 5)) 3 [] Value.none Value.none Value.none (Value.str (Str.ofString "cpy313.graphlib") 295) none (Value.ref 165) Value.none 0)) #[]) :: (nat_lit 167, Obj.mk (Value.type "tuple") none (Data.seq #[]) #[]) :: (nat_lit 169, Obj.mk (Value.type "tuple") none (Data.seq #[Value.str (Str.ofString "self") 427]) #[]) :: (nat_lit 170, Obj.mk (Value.type "tuple") none (Data.seq #[]) #[]) :: (nat_lit 172, Obj.mk (Value.type "code") none (Data.fields #[Value.str (Str.ofString "__bool__") 424, Value.str (Str.ofString "TopologicalSorter.__bool__") 425, Value.str (Str.ofString "/claim/cut.py") 426, Value.int 176 0, Value.int 1 0, Value.int 0 0, Value.int 0 0, Value.int 3 0, Value.ref 167, Value.bool true, Value.int 181 0, Value.ref 168, Value.none, Value.ref 169, Value.ref 170, Value.ref 171, Value.int 428 0, Value.int 176 0, Value.str (Str.ofString "/claim/cut.py") 429]) #[]) :: (nat_lit 173, Obj.mk (Value.type "function") none (Data.func (FuncData.mk (Str.ofString "__bool__") (Str.ofString "TopologicalSorter.__bool__") (defArgs (stmtIn (stmtAt 23) 6)) (FuncBody.stmts (defBody (stmtIn (stmtAt 23) 6))) (defScope (stmtIn (stmtAt 23) 6)) 3 [] Value.none Value.none Value.none (Value.str (Str.ofString "cpy313.graphlib") 295) none (Value.ref 172) Value.none 0)) #[]) :: (nat_lit 174, Obj.mk (Value.type "tuple") none (Data.seq #[]) #[]) :: (nat_lit 176, Obj.mk (Value.type "tuple") none (Data.seq #[Value.str (Str.ofString "self") 434, Value.str (Str.ofString "nodes") 435, Value.str (Str.ofString "n2i") 436, Value.str (Str.ofString "node") 437, Value.str (Str.ofString "nodeinfo") 438, Value.str (Str.ofString "stat") 439, Value.str (Str.ofString "successor") 440, Value.str (Str.ofString "successor_info") 441]) #[]) :: (nat_lit 177, Obj.mk (Value.type "tuple") none (Data.seq #[]) #[]) :: (nat_lit 179, Obj.mk (Value.type "code") none (Data.fields #[Value.str (Str.ofString "done") 431, Value.str (Str.ofString "TopologicalSorter.done") 432, Value.str (Str.ofString "/claim/cut.py") 433, Value.int 179 0, Value.int 1 0, Value.int 0 0, Value.int 0 0, Value.int 7 0, Value.ref 174, Value.bool true, Value.int 181 0, Value.ref 175, Value.none, Value.ref 176, Value.ref 177, Value.ref 178, Value.int 442 0, Value.int 179 0, Value.str (Str.ofString "/claim/cut.py") 443]) #[]) :: (nat_lit 180, Obj.mk (Value.type "function") none (Data.func (FuncData.mk (Str.ofString "done") (Str.ofString "TopologicalSorter.done") (defArgs (stmtIn (stmtAt 23) 7)) (FuncBody.stmts (defBody (stmtIn (stmtAt 23) 7))) (defScope (stmtIn (stmtAt 23) 7)) 3 [] Value.none Value.none Value.none (Value.str (Str.ofString "cpy313.graphlib") 295) none (Value.ref 179) Value.none 0)) #[]) :: (nat_lit 181, Obj.mk (Value.type "tuple") none (Data.seq #[]) #[]) :: (nat_lit 183, Obj.mk (Value.type "tuple") none (Data.seq #[Value.str (Str.ofString "self") 448, Value.str (Str.ofString "n2i") 449, Value.str (Str.ofString "stack") 450, Value.str (Str.ofString "itstack") 451, Value.str (Str.ofString "seen") 452, Value.str (Str.ofString "node2stacki") 453, Value.str (Str.ofString "node") 454]) #[]) :: (nat_lit 184, Obj.mk (Value.type "tuple") none (Data.seq #[]) #[]) :: (nat_lit 186, Obj.mk (Value.type "code") none (Data.fields #[Value.str (Str.ofString "_find_cycle") 445, Value.str (Str.ofString "TopologicalSorter._find_cycle") 446, Value.str (Str.ofString "/claim/cut.py") 447, Value.int 202 0, Value.int 1 0, Value.int 0 0, Value.int 0 0, Value.int 3 0, Value.ref 181, Value.bool true, Value.int 181 0, Value.ref 182, Value.none, Value.ref 183, Value.ref 184, Value.ref 185, Value.int 455 0, Value.int 202 0, Value.str (Str.ofString "/claim/cut.py") 456]) #[]) :: (nat_lit 187, Obj.mk (Value.type "function") none (Data.func (FuncData.mk (Str.ofString "_find_cycle") (Str.ofString "TopologicalSorter._find_cycle") (defArgs (stmtIn (stmtAt 23) 8)) (FuncBody.stmts (defBody (stmtIn (stmtAt 23) 8))) (defScope (stmtIn (stmtAt 23) 8)) 3 [] Value.none Value.none Value.none (Value.str (Str.ofString "cpy313.graphlib") 295) none (Value.ref 186) Value.none 0)) #[]) :: (nat_lit 188, Obj.mk (Value.type "tuple") none (Data.seq #[]) #[]) :: (nat_lit 190, Obj.mk (Value.type "tuple") none (Data.seq #[Value.str (Str.ofString "self") 461]) #[]) :: (nat_lit 191, Obj.mk (Value.type "tuple") none (Data.seq #[]) #[]) :: (nat_lit 193, Obj.mk (Value.type "code") none (Data.fields #[Value.str (Str.ofString "static_order") 458, Value.str (Str.ofString "TopologicalSorter.static_order") 459, Value.str (Str.ofString "/claim/cut.py") 460, Value.int 231 0, Value.int 1 0, Value.int 0 0, Value.int 0 0, Value.int 3 0, Value.ref 188, Value.bool true, Value.int 181 0, Value.ref 189, Value.none, Value.ref 190, Value.ref 191, Value.ref 192, Value.int 462 0, Value.int 231 0, Value.str (Str.ofString "/claim/cut.py") 463]) #[]) :: (nat_lit 194, Obj.mk (Value.type "function") none (Data.func (FuncData.mk (Str.ofString "static_order") (Str.ofString "TopologicalSorter.static_order") (defArgs (stmtIn (stmtAt 23) 9)) (FuncBody.stmts (defBody (stmtIn (stmtAt 23) 9))) (defScope (stmtIn (stmtAt 23) 9)) 3 [] Value.none Value.none Value.none (Value.str (Str.ofString "cpy313.graphlib") 295) none (Value.ref 193) Value.none 0)) #[]) :: (nat_lit 195, Obj.mk (Value.type "tuple") none (Data.seq #[Value.str (Str.ofString "_nfinished") 465, Value.str (Str.ofString "_node2info") 466, Value.str (Str.ofString "_npassedout") 467, Value.str (Str.ofString "_ready_nodes") 468]) #[]) :: (nat_lit 196, Obj.mk (Value.type "dict") none (Data.dict #[DictEntry.mk (PyData.keyHash P (Str.ofString "__module__")) (Value.str (Str.ofString "__module__") 365) (Value.str (Str.ofString "cpy313.graphlib") 295), DictEntry.mk (PyData.keyHash P (Str.ofString "__firstlineno__")) (Value.str (Str.ofString "__firstlineno__") 369) (Value.int 127 368), DictEntry.mk (PyData.keyHash P (Str.ofString "__init__")) (Value.str (Str.ofString "__init__") 379) (Value.ref 133), DictEntry.mk (PyData.keyHash P (Str.ofString "_get_nodeinfo")) (Value.str (Str.ofString "_get_nodeinfo") 388) (Value.ref 140), DictEntry.mk (PyData.keyHash P (Str.ofString "add")) (Value.str (Str.ofString "add") 400) (Value.ref 147), DictEntry.mk (PyData.keyHash P (Str.ofString "prepare")) (Value.str (Str.ofString "prepare") 406) (Value.ref 152), DictEntry.mk (PyData.keyHash P (Str.ofString "get_ready")) (Value.str (Str.ofString "get_ready") 416) (Value.ref 159), DictEntry.mk (PyData.keyHash P (Str.ofString "is_active")) (Value.str (Str.ofString "is_active") 423) (Value.ref 166), DictEntry.mk (PyData.keyHash P (Str.ofString "__bool__")) (Value.str (Str.ofString "__bool__") 430) (Value.ref 173), DictEntry.mk (PyData.keyHash P (Str.ofString "done")) (Value.str (Str.ofString "done") 444) (Value.ref 180), DictEntry.mk (PyData.keyHash P (Str.ofString "_find_cycle")) (Value.str (Str.ofString "_find_cycle") 457) (Value.ref 187), DictEntry.mk (PyData.keyHash P (Str.ofString "static_order")) (Value.str (Str.ofString "static_order") 464) (Value.ref 194), DictEntry.mk (PyData.keyHash P (Str.ofString "__static_attributes__")) (Value.str (Str.ofString "__static_attributes__") 469) (Value.ref 195), DictEntry.mk (PyData.keyHash P (Str.ofString "__dict__")) (Value.str (Str.ofString "__dict__") 471) (Value.ref 198), DictEntry.mk (PyData.keyHash P (Str.ofString "__weakref__")) (Value.str (Str.ofString "__weakref__") 473) (Value.ref 199), DictEntry.mk (PyData.keyHash P (Str.ofString "__doc__")) (Value.str (Str.ofString "__doc__") 474) Value.none] 4) #[]) :: (nat_lit 197, Obj.mk (Value.type "type") none (Data.cls (ClassData.mk (Str.ofString "TopologicalSorter") [Value.type "object"] [Value.ref 197, Value.type "object"] 196 (Str.ofString "TopologicalSorter") true [] [] false none false)) #[none, none, some (Value.str (Str.ofString "TopologicalSorter") 358), some (Value.str (Str.ofString "TopologicalSorter") 366), some (Value.builtin "object.__new__"), some (Value.bool true)]) :: (nat_lit 198, Obj.mk (Value.type "getset_descriptor") none (Data.fields #[Value.str (Str.ofString "__dict__") 470, Value.ref 197, Value.builtin "function.__dict__", Value.builtin "function.__dict__#set"]) #[]) :: (nat_lit 199, Obj.mk (Value.type "getset_descriptor") none (Data.fields #[Value.str (Str.ofString "__weakref__") 472, Value.ref 197, Value.builtin "ExceptionGroup.__weakref__", Value.none]) #[]) :: (nat_lit 202, Obj.mk (Value.type "tuple") none (Data.seq #[]) #[]) :: (nat_lit 204, Obj.mk (Value.type "tuple") none (Data.seq #[Value.str (Str.ofString "octets") 482, Value.str (Str.ofString "signs") 483, Value.str (Str.ofString "size") 484, Value.str (Str.ofString "number") 485, Value.str (Str.ofString "one") 486, Value.str (Str.ofString "text") 487, Value.str (Str.ofString "turn") 488]) #[]) :: (nat_lit 205, Obj.mk (Value.type "tuple") none (Data.seq #[]) #[]) :: (nat_lit 207, Obj.mk (Value.type "code") none (Data.fields #[Value.str (Str.ofString "_law_sixes") 479, Value.str (Str.ofString "_law_sixes") 480, Value.str (Str.ofString "/claim/cut.py") 481, Value.int 234 0, Value.int 1 0, Value.int 0 0, Value.int 0 0, Value.int 3 0, Value.ref 202, Value.bool true, Value.int 181 0, Value.ref 203, Value.none, Value.ref 204, Value.ref 205, Value.ref 206, Value.int 489 0, Value.int 234 0, Value.str (Str.ofString "/claim/cut.py") 490]) #[]) :: (nat_lit 208, Obj.mk (Value.type "function") none (Data.func (FuncData.mk (Str.ofString "_law_sixes") (Str.ofString "_law_sixes") (defArgs (stmtAt 25)) (FuncBody.stmts (defBody (stmtAt 25))) (defScope (stmtAt 25)) 3 [] Value.none Value.none Value.none (Value.str (Str.ofString "law_ny0310_01") 477) none (Value.ref 207) Value.none 0)) #[]) :: (nat_lit 209, Obj.mk (Value.type "tuple") none (Data.seq #[]) #[]) :: (nat_lit 212, Obj.mk (Value.type "code") none (Data.fields #[Value.str (Str.ofString "_law_halves") 492, Value.str (Str.ofString "_law_halves") 493, Value.str (Str.ofString "/claim/cut.py") 494, Value.int 246 0, Value.int 1 0, Value.int 0 0, Value.int 0 0, Value.int 3 0, Value.ref 209, Value.bool true, Value.int 181 0, Value.ref 210, Value.none, Value.none, Value.none, Value.ref 211, Value.int 495 0, Value.int 246 0, Value.str (Str.ofString "/claim/cut.py") 496]) #[]) :: (nat_lit 213, Obj.mk (Value.type "function") none (Data.func (FuncData.mk (Str.ofString "_law_halves") (Str.ofString "_law_halves") (defArgs (stmtAt 26)) (FuncBody.stmts (defBody (stmtAt 26))) (defScope (stmtAt 26)) 3 [] Value.none Value.none Value.none (Value.str (Str.ofString "law_ny0310_01") 477) none (Value.ref 212) Value.none 0)) #[]) :: (nat_lit 214, Obj.mk (Value.type "tuple") none (Data.seq #[]) #[]) :: (nat_lit 217, Obj.mk (Value.type "code") none (Data.fields #[Value.str (Str.ofString "_law_text") 498, Value.str (Str.ofString "_law_text") 499, Value.str (Str.ofString "/claim/cut.py") 500, Value.int 249 0, Value.int 1 0, Value.int 0 0, Value.int 0 0, Value.int 3 0, Value.ref 214, Value.bool true, Value.int 181 0, Value.ref 215, Value.none, Value.none, Value.none, Value.ref 216, Value.int 501 0, Value.int 249 0, Value.str (Str.ofString "/claim/cut.py") 502]) #[]) :: (nat_lit 218, Obj.mk (Value.type "function") none (Data.func (FuncData.mk (Str.ofString "_law_text") (Str.ofString "_law_text") (defArgs (stmtAt 27)) (FuncBody.stmts (defBody (stmtAt 27))) (defScope (stmtAt 27)) 3 [] Value.none Value.none Value.none (Value.str (Str.ofString "law_ny0310_01") 477) none (Value.ref 217) Value.none 0)) #[]) :: (nat_lit 219, Obj.mk (Value.type "tuple") none (Data.seq #[]) #[]) :: (nat_lit 221, Obj.mk (Value.type "tuple") none (Data.seq #[Value.str (Str.ofString "a") 507, Value.str (Str.ofString "b") 508]) #[]) :: (nat_lit 222, Obj.mk (Value.type "tuple") none (Data.seq #[]) #[]) :: (nat_lit 224, Obj.mk (Value.type "code") none (Data.fields #[Value.str (Str.ofString "_law_sign") 504, Value.str (Str.ofString "_law_sign") 505, Value.str (Str.ofString "/claim/cut.py") 506, Value.int 253 0, Value.int 2 0, Value.int 0 0, Value.int 0 0, Value.int 3 0, Value.ref 219, Value.bool true, Value.int 181 0, Value.ref 220, Value.none, Value.ref 221, Value.ref 222, Value.ref 223, Value.int 509 0, Value.int 253 0, Value.str (Str.ofString "/claim/cut.py") 510]) #[]) :: (nat_lit 225, Obj.mk (Value.type "function") none (Data.func (FuncData.mk (Str.ofString "_law_sign") (Str.ofString "_law_sign") (defArgs (stmtAt 28)) (FuncBody.stmts (defBody (stmtAt 28))) (defScope (stmtAt 28)) 3 [] Value.none Value.none Value.none (Value.str (Str.ofString "law_ny0310_01") 477) none (Value.ref 224) Value.none 0)) #[]) :: (nat_lit 226, Obj.mk (Value.type "tuple") none (Data.seq #[]) #[]) :: (nat_lit 228, Obj.mk (Value.type "tuple") none (Data.seq #[Value.str (Str.ofString "kind") 515, Value.str (Str.ofString "a") 516, Value.str (Str.ofString "b") 517]) #[]) :: (nat_lit 229, Obj.mk (Value.type "tuple") none (Data.seq #[]) #[]) :: (nat_lit 231, Obj.mk (Value.type "code") none (Data.fields #[Value.str (Str.ofString "_law_price") 512, Value.str (Str.ofString "_law_price") 513, Value.str (Str.ofString "/claim/cut.py") 514, Value.int 259 0, Value.int 3 0, Value.int 0 0, Value.int 0 0, Value.int 3 0, Value.ref 226, Value.bool true, Value.int 181 0, Value.ref 227, Value.none, Value.ref 228, Value.ref 229, Value.ref 230, Value.int 518 0, Value.int 259 0, Value.str (Str.ofString "/claim/cut.py") 519]) #[]) :: (nat_lit 232, Obj.mk (Value.type "function") none (Data.func (FuncData.mk (Str.ofString "_law_price") (Str.ofString "_law_price") (defArgs (stmtAt 29)) (FuncBody.stmts (defBody (stmtAt 29))) (defScope (stmtAt 29)) 3 [] Value.none Value.none Value.none (Value.str (Str.ofString "law_ny0310_01") 477) none (Value.ref 231) Value.none 0)) #[]) :: (nat_lit 233, Obj.mk (Value.type "tuple") none (Data.seq #[]) #[]) :: (nat_lit 236, Obj.mk (Value.type "code") none (Data.fields #[Value.str (Str.ofString "law") 521, Value.str (Str.ofString "law") 522, Value.str (Str.ofString "/claim/cut.py") 523, Value.int 265 0, Value.int 1 0, Value.int 0 0, Value.int 0 0, Value.int 3 0, Value.ref 233, Value.bool true, Value.int 181 0, Value.ref 234, Value.none, Value.none, Value.none, Value.ref 235, Value.int 524 0, Value.int 265 0, Value.str (Str.ofString "/claim/cut.py") 525]) #[]) :: (nat_lit 237, Obj.mk (Value.type "function") none (Data.func (FuncData.mk (Str.ofString "law") (Str.ofString "law") (defArgs (stmtAt 30)) (FuncBody.stmts (defBody (stmtAt 30))) (Scope.mk ScopeKind.function [(Str.ofString "script", NameKind.local), (Str.ofString "cells", NameKind.cell), (Str.ofString "total", NameKind.cell), (Str.ofString "place", NameKind.local), (Str.ofString "n", NameKind.cell), (Str.ofString "bound", NameKind.local), (Str.ofString "k", NameKind.cell), (Str.ofString "old", NameKind.local), (Str.ofString "new", NameKind.local), (Str.ofString "needs", NameKind.cell), (Str.ofString "rest", NameKind.local), (Str.ofString "named", NameKind.local), (Str.ofString "due", NameKind.local), (Str.ofString "left", NameKind.cell), (Str.ofString "turn", NameKind.local), (Str.ofString "free", NameKind.cell), (Str.ofString "sorter", NameKind.local), (Str.ofString "held", NameKind.local), (Str.ofString "row", NameKind.local), (Str.ofString "ahead", NameKind.local), (Str.ofString "told", NameKind.local), (Str.ofString "handed", NameKind.local), (Str.ofString "behind", NameKind.local), (Str.ofString "prices", NameKind.local), (Str.ofString "short", NameKind.local), (Str.ofString "range", NameKind.globalImplicit), (Str.ofString "min", NameKind.globalImplicit), (Str.ofString "len", NameKind.globalImplicit), (Str.ofString "list", NameKind.globalImplicit), (Str.ofString "TopologicalSorter", NameKind.globalImplicit), (Str.ofString "CycleError", NameKind.globalImplicit), (Str.ofString "_law_text", NameKind.globalImplicit), (Str.ofString "b64encode", NameKind.globalImplicit), (Str.ofString "bytes", NameKind.globalImplicit), (Str.ofString "b16encode", NameKind.globalImplicit), (Str.ofString "_law_sixes", NameKind.globalImplicit), (Str.ofString "_law_halves", NameKind.globalImplicit), (Str.ofString "sorted", NameKind.globalImplicit), (Str.ofString "_levenshtein_distance", NameKind.globalImplicit), (Str.ofString "_law_price", NameKind.globalImplicit)] false false [(Str.ofString "fast", Const.str (Str.ofString "script")), (Str.ofString "fast", Const.str (Str.ofString "cells")), (Str.ofString "fast", Const.str (Str.ofString "total")), (Str.ofString "fast", Const.str (Str.ofString "place")), (Str.ofString "fast", Const.str (Str.ofString "n")), (Str.ofString "fast", Const.str (Str.ofString "bound")), (Str.ofString "fast", Const.str (Str.ofString "k")), (Str.ofString "fast", Const.str (Str.ofString "old")), (Str.ofString "fast", Const.str (Str.ofString "new")), (Str.ofString "fast", Const.str (Str.ofString "needs")), (Str.ofString "fast", Const.str (Str.ofString "rest")), (Str.ofString "fast", Const.str (Str.ofString "named")), (Str.ofString "fast", Const.str (Str.ofString "j")), (Str.ofString "fast", Const.str (Str.ofString "due")), (Str.ofString "fast", Const.str (Str.ofString "left")), (Str.ofString "fast", Const.str (Str.ofString "turn")), (Str.ofString "fast", Const.str (Str.ofString "free")), (Str.ofString "fast", Const.str (Str.ofString "sorter")), (Str.ofString "fast", Const.str (Str.ofString "held")), (Str.ofString "fast", Const.str (Str.ofString "row")), (Str.ofString "fast", Const.str (Str.ofString "ahead")), (Str.ofString "fast", Const.str (Str.ofString "told")), (Str.ofString "fast", Const.str (Str.ofString "handed")), (Str.ofString "fast", Const.str (Str.ofString "behind")), (Str.ofString "fast", Const.str (Str.ofString "prices")), (Str.ofString "fast", Const.str (Str.ofString "short"))]) 3 [] Value.none Value.none Value.none (Value.str (Str.ofString "law_ny0310_01") 477) none (Value.ref 236) Value.none 0)) #[]) :: []
noncomputable abbrev hd.as : List Addr := [2, 3, 15, 17, 18, 20, 21, 22, 24, 25, 27, 28, 29, 31, 32, 34, 35, 36, 38, 39, 41, 42, 43, 45, 46, 48, 49, 50, 51, 53, 54, 56, 57, 58, 59, 60, 62, 63, 65, 66, 67, 68, 70, 71, 73, 74, 75, 77, 78, 80, 81, 89, 90, 92, 93, 95, 96, 97, 99, 100, 101, 102, 103, 106, 113, 114, 115, 116, 126, 127, 129, 130, 132, 133, 134, 136, 137, 139, 140, 141, 143, 144, 146, 147, 148, 151, 152, 153, 155, 156, 158, 159, 160, 162, 163, 165, 166, 167, 169, 170, 172, 173, 174, 176, 177, 179, 180, 181, 183, 184, 186, 187, 188, 190, 191, 193, 194, 195, 196, 197, 198, 199, 202, 204, 205, 207, 208, 209, 212, 213, 214, 217, 218, 219, 221, 222, 224, 225, 226, 228, 229, 231, 232, 233, 236, 237]
noncomputable abbrev hd.loose : List Str := [Str.ofString "b2a_base64", Str.ofString "_NO_SEP", Str.ofString "b2a_hex", Str.ofString "hexlify", Str.ofString "b64encode", Str.ofString "_NodeInfo"]
theorem hd.left : LeftO PySem.Challenge.rw_ny0310_01.row.toRowW.prog hd.view_39 hd.loose (fun s => xlAt hd.view_39 [] s && recOk (RowW.records PySem.Challenge.rw_ny0310_01.row.toRowW) s)
  (Hook.obs (kHook hd.heap_39 hd.as (fun _ => by kernel_rfl))) (Hook.val (kHook hd.heap_39 hd.as (fun _ => by kernel_rfl))) 3312 := fun w => by kernel_rfl
theorem hd.said : OpenLaw.wellSaid PySem.Challenge.rw_ny0310_01 = true := by kernel_rfl
end
section
open PySem PySem.W PyProof.Rows PySem.Calls
noncomputable abbrev prg : Program := PySem.Challenge.rw_ny0310_01.row.prog
noncomputable abbrev vw := Mine.hd.view_39
noncomputable abbrev loose0 : List Str := (looseW Mine.hd.view_39
   [Str.ofString "b2a_base64", Str.ofString "_NO_SEP", Str.ofString "b2a_hex", Str.ofString "hexlify",
    Str.ofString "b64encode", Str.ofString "_NodeInfo"])
theorem allne_of {d : Addr} : ∀ {l : List (Addr × Obj)}, AllLt d l → ∀ p ∈ l, p.1 ≠ d
 | [], _, _, hp => nomatch hp
 | q :: _, h, p, hp => by
  rcases List.mem_cons.mp hp with rfl | hp
  ·exact Nat.ne_of_lt h.1
  ·exact allne_of h.2 p hp
theorem mem_sub {α : Type} {l l' : List α} (h : ∀ p ∈ l, p ∈ l') (x : α) : ∀ p ∈ l, p ∈ x :: l' := fun p hp => .tail _ (h p hp)
theorem letJ1 {α : Sort _} {G : Prop} (v : α → Prop) (k : ∀ J : α → Prop, (∀ a, J a = v a) → G) : G := k v fun _ => rfl
theorem letJ2 {α β : Sort _} {G : Prop} (v : α → β → Prop) (k : ∀ J : α → β → Prop, (∀ a b, J a b = v a b) → G) : G := k v fun _ _ => rfl
theorem letJ3 {α β γ : Sort _} {G : Prop} (v : α → β → γ → Prop) (k : ∀ J : α → β → γ → Prop, (∀ a b c, J a b c = v a b c) → G) : G := k v fun _ _ _ => rfl
theorem letJ4 {α β γ δ : Sort _} {G : Prop} (v : α → β → γ → δ → Prop) (k : ∀ J : α → β → γ → δ → Prop, (∀ a b c d, J a b c d = v a b c d) → G) : G := k v fun _ _ _ _ => rfl
theorem letJE {α : Sort _} {G : Prop} (v : α) (k : ∀ J : α, J = v → G) : G := k v rfl
theorem an1 {A1 A2 : Prop} {G : Prop} (h : A1 ∧ A2) (k : A1 → A2 → G) : G := k (h.1) (h.2)
theorem an2 {A1 A2 A3 : Prop} {G : Prop} (h : A1 ∧ A2 ∧ A3) (k : A1 → A2 → A3 → G) : G := k (h.1) (h.2.1) (h.2.2)
theorem an3 {A1 A2 A3 A4 : Prop} {G : Prop} (h : A1 ∧ A2 ∧ A3 ∧ A4) (k : A1 → A2 → A3 → A4 → G) : G := k (h.1) (h.2.1) (h.2.2.1) (h.2.2.2)
theorem an4 {A1 A2 A3 A4 A5 : Prop} {G : Prop} (h : A1 ∧ A2 ∧ A3 ∧ A4 ∧ A5) (k : A1 → A2 → A3 → A4 → A5 → G) : G := k (h.1) (h.2.1) (h.2.2.1) (h.2.2.2.1) (h.2.2.2.2)
theorem an5 {A1 A2 A3 A4 A5 A6 : Prop} {G : Prop} (h : A1 ∧ A2 ∧ A3 ∧ A4 ∧ A5 ∧ A6) (k : A1 → A2 → A3 → A4 → A5 → A6 → G) : G := k (h.1) (h.2.1) (h.2.2.1) (h.2.2.2.1) (h.2.2.2.2.1) (h.2.2.2.2.2)
theorem an6 {A1 A2 A3 A4 A5 A6 A7 : Prop} {G : Prop} (h : A1 ∧ A2 ∧ A3 ∧ A4 ∧ A5 ∧ A6 ∧ A7) (k : A1 → A2 → A3 → A4 → A5 → A6 → A7 → G) : G := k (h.1) (h.2.1) (h.2.2.1) (h.2.2.2.1) (h.2.2.2.2.1) (h.2.2.2.2.2.1) (h.2.2.2.2.2.2)
theorem an7 {A1 A2 A3 A4 A5 A6 A7 A8 : Prop} {G : Prop} (h : A1 ∧ A2 ∧ A3 ∧ A4 ∧ A5 ∧ A6 ∧ A7 ∧ A8) (k : A1 → A2 → A3 → A4 → A5 → A6 → A7 → A8 → G) : G := k (h.1) (h.2.1) (h.2.2.1) (h.2.2.2.1) (h.2.2.2.2.1) (h.2.2.2.2.2.1) (h.2.2.2.2.2.2.1) (h.2.2.2.2.2.2.2)
theorem an8 {A1 A2 A3 A4 A5 A6 A7 A8 A9 : Prop} {G : Prop} (h : A1 ∧ A2 ∧ A3 ∧ A4 ∧ A5 ∧ A6 ∧ A7 ∧ A8 ∧ A9) (k : A1 → A2 → A3 → A4 → A5 → A6 → A7 → A8 → A9 → G) : G := k (h.1) (h.2.1) (h.2.2.1) (h.2.2.2.1) (h.2.2.2.2.1) (h.2.2.2.2.2.1) (h.2.2.2.2.2.2.1) (h.2.2.2.2.2.2.2.1) (h.2.2.2.2.2.2.2.2)
theorem an9 {A1 A2 A3 A4 A5 A6 A7 A8 A9 A10 : Prop} {G : Prop} (h : A1 ∧ A2 ∧ A3 ∧ A4 ∧ A5 ∧ A6 ∧ A7 ∧ A8 ∧ A9 ∧ A10) (k : A1 → A2 → A3 → A4 → A5 → A6 → A7 → A8 → A9 → A10 → G) : G := k (h.1) (h.2.1) (h.2.2.1) (h.2.2.2.1) (h.2.2.2.2.1) (h.2.2.2.2.2.1) (h.2.2.2.2.2.2.1) (h.2.2.2.2.2.2.2.1) (h.2.2.2.2.2.2.2.2.1) (h.2.2.2.2.2.2.2.2.2)
theorem an10 {A1 A2 A3 A4 A5 A6 A7 A8 A9 A10 A11 : Prop} {G : Prop} (h : A1 ∧ A2 ∧ A3 ∧ A4 ∧ A5 ∧ A6 ∧ A7 ∧ A8 ∧ A9 ∧ A10 ∧ A11) (k : A1 → A2 → A3 → A4 → A5 → A6 → A7 → A8 → A9 → A10 → A11 → G) : G := k (h.1) (h.2.1) (h.2.2.1) (h.2.2.2.1) (h.2.2.2.2.1) (h.2.2.2.2.2.1) (h.2.2.2.2.2.2.1) (h.2.2.2.2.2.2.2.1) (h.2.2.2.2.2.2.2.2.1) (h.2.2.2.2.2.2.2.2.2.1) (h.2.2.2.2.2.2.2.2.2.2)
theorem an11 {A1 A2 A3 A4 A5 A6 A7 A8 A9 A10 A11 A12 : Prop} {G : Prop} (h : A1 ∧ A2 ∧ A3 ∧ A4 ∧ A5 ∧ A6 ∧ A7 ∧ A8 ∧ A9 ∧ A10 ∧ A11 ∧ A12) (k : A1 → A2 → A3 → A4 → A5 → A6 → A7 → A8 → A9 → A10 → A11 → A12 → G) : G := k (h.1) (h.2.1) (h.2.2.1) (h.2.2.2.1) (h.2.2.2.2.1) (h.2.2.2.2.2.1) (h.2.2.2.2.2.2.1) (h.2.2.2.2.2.2.2.1) (h.2.2.2.2.2.2.2.2.1) (h.2.2.2.2.2.2.2.2.2.1) (h.2.2.2.2.2.2.2.2.2.2.1) (h.2.2.2.2.2.2.2.2.2.2.2)
theorem an13 {A1 A2 A3 A4 A5 A6 A7 A8 A9 A10 A11 A12 A13 A14 : Prop} {G : Prop} (h : A1 ∧ A2 ∧ A3 ∧ A4 ∧ A5 ∧ A6 ∧ A7 ∧ A8 ∧ A9 ∧ A10 ∧ A11 ∧ A12 ∧ A13 ∧ A14) (k : A1 → A2 → A3 → A4 → A5 → A6 → A7 → A8 → A9 → A10 → A11 → A12 → A13 → A14 → G) : G := k (h.1) (h.2.1) (h.2.2.1) (h.2.2.2.1) (h.2.2.2.2.1) (h.2.2.2.2.2.1) (h.2.2.2.2.2.2.1) (h.2.2.2.2.2.2.2.1) (h.2.2.2.2.2.2.2.2.1) (h.2.2.2.2.2.2.2.2.2.1) (h.2.2.2.2.2.2.2.2.2.2.1) (h.2.2.2.2.2.2.2.2.2.2.2.1) (h.2.2.2.2.2.2.2.2.2.2.2.2.1) (h.2.2.2.2.2.2.2.2.2.2.2.2.2)
theorem cj2 {A0 A1 : Prop} (b0 : A0) (b1 : A1) : A0 ∧ A1 := ⟨b0, b1⟩
theorem cj3 {A0 A1 A2 : Prop} (b0 : A0) (b1 : A1) (b2 : A2) : A0 ∧ A1 ∧ A2 := ⟨b0, b1, b2⟩
theorem cj4 {A0 A1 A2 A3 : Prop} (b0 : A0) (b1 : A1) (b2 : A2) (b3 : A3) : A0 ∧ A1 ∧ A2 ∧ A3 := ⟨b0, b1, b2, b3⟩
theorem cj5 {A0 A1 A2 A3 A4 : Prop} (b0 : A0) (b1 : A1) (b2 : A2) (b3 : A3) (b4 : A4) : A0 ∧ A1 ∧ A2 ∧ A3 ∧ A4 := ⟨b0, b1, b2, b3, b4⟩
theorem cj6 {A0 A1 A2 A3 A4 A5 : Prop} (b0 : A0) (b1 : A1) (b2 : A2) (b3 : A3) (b4 : A4) (b5 : A5) : A0 ∧ A1 ∧ A2 ∧ A3 ∧ A4 ∧ A5 := ⟨b0, b1, b2, b3, b4, b5⟩
theorem cj7 {A0 A1 A2 A3 A4 A5 A6 : Prop} (b0 : A0) (b1 : A1) (b2 : A2) (b3 : A3) (b4 : A4) (b5 : A5) (b6 : A6) : A0 ∧ A1 ∧ A2 ∧ A3 ∧ A4 ∧ A5 ∧ A6 := ⟨b0, b1, b2, b3, b4, b5, b6⟩
theorem cj8 {A0 A1 A2 A3 A4 A5 A6 A7 : Prop} (b0 : A0) (b1 : A1) (b2 : A2) (b3 : A3) (b4 : A4) (b5 : A5) (b6 : A6) (b7 : A7) : A0 ∧ A1 ∧ A2 ∧ A3 ∧ A4 ∧ A5 ∧ A6 ∧ A7 := ⟨b0, b1, b2, b3, b4, b5, b6, b7⟩
theorem cj9 {A0 A1 A2 A3 A4 A5 A6 A7 A8 : Prop} (b0 : A0) (b1 : A1) (b2 : A2) (b3 : A3) (b4 : A4) (b5 : A5) (b6 : A6) (b7 : A7) (b8 : A8) : A0 ∧ A1 ∧ A2 ∧ A3 ∧ A4 ∧ A5 ∧ A6 ∧ A7 ∧ A8 := ⟨b0, b1, b2, b3, b4, b5, b6, b7, b8⟩
theorem cj12 {A0 A1 A2 A3 A4 A5 A6 A7 A8 A9 A10 A11 : Prop} (b0 : A0) (b1 : A1) (b2 : A2) (b3 : A3) (b4 : A4) (b5 : A5) (b6 : A6) (b7 : A7) (b8 : A8) (b9 : A9) (b10 : A10) (b11 : A11) : A0 ∧ A1 ∧ A2 ∧ A3 ∧ A4 ∧ A5 ∧ A6 ∧ A7 ∧ A8 ∧ A9 ∧ A10 ∧ A11 := ⟨b0, b1, b2, b3, b4, b5, b6, b7, b8, b9, b10, b11⟩
theorem cj14 {A0 A1 A2 A3 A4 A5 A6 A7 A8 A9 A10 A11 A12 A13 : Prop} (b0 : A0) (b1 : A1) (b2 : A2) (b3 : A3) (b4 : A4) (b5 : A5) (b6 : A6) (b7 : A7) (b8 : A8) (b9 : A9) (b10 : A10) (b11 : A11) (b12 : A12) (b13 : A13) : A0 ∧ A1 ∧ A2 ∧ A3 ∧ A4 ∧ A5 ∧ A6 ∧ A7 ∧ A8 ∧ A9 ∧ A10 ∧ A11 ∧ A12 ∧ A13 := ⟨b0, b1, b2, b3, b4, b5, b6, b7, b8, b9, b10, b11, b12, b13⟩
theorem ex1 {T1 : Sort _} {P : T1 → Prop} {G : Prop} (h : ∃ x1, P x1) (k : ∀ x1, P x1 → G) : G := Exists.elim h fun x1 h1 => k x1 h1
theorem ex2 {T1 T2 : Sort _} {P : T1 → T2 → Prop} {G : Prop} (h : ∃ x1, ∃ x2, P x1 x2) (k : ∀ x1, ∀ x2, P x1 x2 → G) : G := Exists.elim h fun x1 h1 => Exists.elim h1 fun x2 h2 => k x1 x2 h2
theorem ex3 {T1 T2 T3 : Sort _} {P : T1 → T2 → T3 → Prop} {G : Prop} (h : ∃ x1, ∃ x2, ∃ x3, P x1 x2 x3) (k : ∀ x1, ∀ x2, ∀ x3, P x1 x2 x3 → G) : G := Exists.elim h fun x1 h1 => Exists.elim h1 fun x2 h2 => Exists.elim h2 fun x3 h3 => k x1 x2 x3 h3
theorem ex4 {T1 T2 T3 T4 : Sort _} {P : T1 → T2 → T3 → T4 → Prop} {G : Prop} (h : ∃ x1, ∃ x2, ∃ x3, ∃ x4, P x1 x2 x3 x4) (k : ∀ x1, ∀ x2, ∀ x3, ∀ x4, P x1 x2 x3 x4 → G) : G := Exists.elim h fun x1 h1 => Exists.elim h1 fun x2 h2 => Exists.elim h2 fun x3 h3 => Exists.elim h3 fun x4 h4 => k x1 x2 x3 x4 h4
theorem ex5 {T1 T2 T3 T4 T5 : Sort _} {P : T1 → T2 → T3 → T4 → T5 → Prop} {G : Prop} (h : ∃ x1, ∃ x2, ∃ x3, ∃ x4, ∃ x5, P x1 x2 x3 x4 x5) (k : ∀ x1, ∀ x2, ∀ x3, ∀ x4, ∀ x5, P x1 x2 x3 x4 x5 → G) : G := Exists.elim h fun x1 h1 => Exists.elim h1 fun x2 h2 => Exists.elim h2 fun x3 h3 => Exists.elim h3 fun x4 h4 => Exists.elim h4 fun x5 h5 => k x1 x2 x3 x4 x5 h5
theorem ex6 {T1 T2 T3 T4 T5 T6 : Sort _} {P : T1 → T2 → T3 → T4 → T5 → T6 → Prop} {G : Prop} (h : ∃ x1, ∃ x2, ∃ x3, ∃ x4, ∃ x5, ∃ x6, P x1 x2 x3 x4 x5 x6) (k : ∀ x1, ∀ x2, ∀ x3, ∀ x4, ∀ x5, ∀ x6, P x1 x2 x3 x4 x5 x6 → G) : G := Exists.elim h fun x1 h1 => Exists.elim h1 fun x2 h2 => Exists.elim h2 fun x3 h3 => Exists.elim h3 fun x4 h4 => Exists.elim h4 fun x5 h5 => Exists.elim h5 fun x6 h6 => k x1 x2 x3 x4 x5 x6 h6
theorem ex7 {T1 T2 T3 T4 T5 T6 T7 : Sort _} {P : T1 → T2 → T3 → T4 → T5 → T6 → T7 → Prop} {G : Prop} (h : ∃ x1, ∃ x2, ∃ x3, ∃ x4, ∃ x5, ∃ x6, ∃ x7, P x1 x2 x3 x4 x5 x6 x7) (k : ∀ x1, ∀ x2, ∀ x3, ∀ x4, ∀ x5, ∀ x6, ∀ x7, P x1 x2 x3 x4 x5 x6 x7 → G) : G := Exists.elim h fun x1 h1 => Exists.elim h1 fun x2 h2 => Exists.elim h2 fun x3 h3 => Exists.elim h3 fun x4 h4 => Exists.elim h4 fun x5 h5 => Exists.elim h5 fun x6 h6 => Exists.elim h6 fun x7 h7 => k x1 x2 x3 x4 x5 x6 x7 h7
theorem ex8 {T1 T2 T3 T4 T5 T6 T7 T8 : Sort _} {P : T1 → T2 → T3 → T4 → T5 → T6 → T7 → T8 → Prop} {G : Prop} (h : ∃ x1, ∃ x2, ∃ x3, ∃ x4, ∃ x5, ∃ x6, ∃ x7, ∃ x8, P x1 x2 x3 x4 x5 x6 x7 x8) (k : ∀ x1, ∀ x2, ∀ x3, ∀ x4, ∀ x5, ∀ x6, ∀ x7, ∀ x8, P x1 x2 x3 x4 x5 x6 x7 x8 → G) : G := Exists.elim h fun x1 h1 => Exists.elim h1 fun x2 h2 => Exists.elim h2 fun x3 h3 => Exists.elim h3 fun x4 h4 => Exists.elim h4 fun x5 h5 => Exists.elim h5 fun x6 h6 => Exists.elim h6 fun x7 h7 => Exists.elim h7 fun x8 h8 => k x1 x2 x3 x4 x5 x6 x7 x8 h8
theorem ex10 {T1 T2 T3 T4 T5 T6 T7 T8 T9 T10 : Sort _} {P : T1 → T2 → T3 → T4 → T5 → T6 → T7 → T8 → T9 → T10 → Prop} {G : Prop} (h : ∃ x1, ∃ x2, ∃ x3, ∃ x4, ∃ x5, ∃ x6, ∃ x7, ∃ x8, ∃ x9, ∃ x10, P x1 x2 x3 x4 x5 x6 x7 x8 x9 x10) (k : ∀ x1, ∀ x2, ∀ x3, ∀ x4, ∀ x5, ∀ x6, ∀ x7, ∀ x8, ∀ x9, ∀ x10, P x1 x2 x3 x4 x5 x6 x7 x8 x9 x10 → G) : G := Exists.elim h fun x1 h1 => Exists.elim h1 fun x2 h2 => Exists.elim h2 fun x3 h3 => Exists.elim h3 fun x4 h4 => Exists.elim h4 fun x5 h5 => Exists.elim h5 fun x6 h6 => Exists.elim h6 fun x7 h7 => Exists.elim h7 fun x8 h8 => Exists.elim h8 fun x9 h9 => Exists.elim h9 fun x10 h10 => k x1 x2 x3 x4 x5 x6 x7 x8 x9 x10 h10
theorem ex11 {T1 T2 T3 T4 T5 T6 T7 T8 T9 T10 T11 : Sort _} {P : T1 → T2 → T3 → T4 → T5 → T6 → T7 → T8 → T9 → T10 → T11 → Prop} {G : Prop} (h : ∃ x1, ∃ x2, ∃ x3, ∃ x4, ∃ x5, ∃ x6, ∃ x7, ∃ x8, ∃ x9, ∃ x10, ∃ x11, P x1 x2 x3 x4 x5 x6 x7 x8 x9 x10 x11) (k : ∀ x1, ∀ x2, ∀ x3, ∀ x4, ∀ x5, ∀ x6, ∀ x7, ∀ x8, ∀ x9, ∀ x10, ∀ x11, P x1 x2 x3 x4 x5 x6 x7 x8 x9 x10 x11 → G) : G := Exists.elim h fun x1 h1 => Exists.elim h1 fun x2 h2 => Exists.elim h2 fun x3 h3 => Exists.elim h3 fun x4 h4 => Exists.elim h4 fun x5 h5 => Exists.elim h5 fun x6 h6 => Exists.elim h6 fun x7 h7 => Exists.elim h7 fun x8 h8 => Exists.elim h8 fun x9 h9 => Exists.elim h9 fun x10 h10 => Exists.elim h10 fun x11 h11 => k x1 x2 x3 x4 x5 x6 x7 x8 x9 x10 x11 h11
theorem ex12 {T1 T2 T3 T4 T5 T6 T7 T8 T9 T10 T11 T12 : Sort _} {P : T1 → T2 → T3 → T4 → T5 → T6 → T7 → T8 → T9 → T10 → T11 → T12 → Prop} {G : Prop} (h : ∃ x1, ∃ x2, ∃ x3, ∃ x4, ∃ x5, ∃ x6, ∃ x7, ∃ x8, ∃ x9, ∃ x10, ∃ x11, ∃ x12, P x1 x2 x3 x4 x5 x6 x7 x8 x9 x10 x11 x12) (k : ∀ x1, ∀ x2, ∀ x3, ∀ x4, ∀ x5, ∀ x6, ∀ x7, ∀ x8, ∀ x9, ∀ x10, ∀ x11, ∀ x12, P x1 x2 x3 x4 x5 x6 x7 x8 x9 x10 x11 x12 → G) : G := Exists.elim h fun x1 h1 => Exists.elim h1 fun x2 h2 => Exists.elim h2 fun x3 h3 => Exists.elim h3 fun x4 h4 => Exists.elim h4 fun x5 h5 => Exists.elim h5 fun x6 h6 => Exists.elim h6 fun x7 h7 => Exists.elim h7 fun x8 h8 => Exists.elim h8 fun x9 h9 => Exists.elim h9 fun x10 h10 => Exists.elim h10 fun x11 h11 => Exists.elim h11 fun x12 h12 => k x1 x2 x3 x4 x5 x6 x7 x8 x9 x10 x11 x12 h12
theorem ex13 {T1 T2 T3 T4 T5 T6 T7 T8 T9 T10 T11 T12 T13 : Sort _} {P : T1 → T2 → T3 → T4 → T5 → T6 → T7 → T8 → T9 → T10 → T11 → T12 → T13 → Prop} {G : Prop} (h : ∃ x1, ∃ x2, ∃ x3, ∃ x4, ∃ x5, ∃ x6, ∃ x7, ∃ x8, ∃ x9, ∃ x10, ∃ x11, ∃ x12, ∃ x13, P x1 x2 x3 x4 x5 x6 x7 x8 x9 x10 x11 x12 x13) (k : ∀ x1, ∀ x2, ∀ x3, ∀ x4, ∀ x5, ∀ x6, ∀ x7, ∀ x8, ∀ x9, ∀ x10, ∀ x11, ∀ x12, ∀ x13, P x1 x2 x3 x4 x5 x6 x7 x8 x9 x10 x11 x12 x13 → G) : G := Exists.elim h fun x1 h1 => Exists.elim h1 fun x2 h2 => Exists.elim h2 fun x3 h3 => Exists.elim h3 fun x4 h4 => Exists.elim h4 fun x5 h5 => Exists.elim h5 fun x6 h6 => Exists.elim h6 fun x7 h7 => Exists.elim h7 fun x8 h8 => Exists.elim h8 fun x9 h9 => Exists.elim h9 fun x10 h10 => Exists.elim h10 fun x11 h11 => Exists.elim h11 fun x12 h12 => Exists.elim h12 fun x13 h13 => k x1 x2 x3 x4 x5 x6 x7 x8 x9 x10 x11 x12 x13 h13
theorem ex15 {T1 T2 T3 T4 T5 T6 T7 T8 T9 T10 T11 T12 T13 T14 T15 : Sort _} {P : T1 → T2 → T3 → T4 → T5 → T6 → T7 → T8 → T9 → T10 → T11 → T12 → T13 → T14 → T15 → Prop} {G : Prop} (h : ∃ x1, ∃ x2, ∃ x3, ∃ x4, ∃ x5, ∃ x6, ∃ x7, ∃ x8, ∃ x9, ∃ x10, ∃ x11, ∃ x12, ∃ x13, ∃ x14, ∃ x15, P x1 x2 x3 x4 x5 x6 x7 x8 x9 x10 x11 x12 x13 x14 x15) (k : ∀ x1, ∀ x2, ∀ x3, ∀ x4, ∀ x5, ∀ x6, ∀ x7, ∀ x8, ∀ x9, ∀ x10, ∀ x11, ∀ x12, ∀ x13, ∀ x14, ∀ x15, P x1 x2 x3 x4 x5 x6 x7 x8 x9 x10 x11 x12 x13 x14 x15 → G) : G := Exists.elim h fun x1 h1 => Exists.elim h1 fun x2 h2 => Exists.elim h2 fun x3 h3 => Exists.elim h3 fun x4 h4 => Exists.elim h4 fun x5 h5 => Exists.elim h5 fun x6 h6 => Exists.elim h6 fun x7 h7 => Exists.elim h7 fun x8 h8 => Exists.elim h8 fun x9 h9 => Exists.elim h9 fun x10 h10 => Exists.elim h10 fun x11 h11 => Exists.elim h11 fun x12 h12 => Exists.elim h12 fun x13 h13 => Exists.elim h13 fun x14 h14 => Exists.elim h14 fun x15 h15 => k x1 x2 x3 x4 x5 x6 x7 x8 x9 x10 x11 x12 x13 x14 x15 h15
theorem ex17 {T1 T2 T3 T4 T5 T6 T7 T8 T9 T10 T11 T12 T13 T14 T15 T16 T17 : Sort _} {P : T1 → T2 → T3 → T4 → T5 → T6 → T7 → T8 → T9 → T10 → T11 → T12 → T13 → T14 → T15 → T16 → T17 → Prop} {G : Prop} (h : ∃ x1, ∃ x2, ∃ x3, ∃ x4, ∃ x5, ∃ x6, ∃ x7, ∃ x8, ∃ x9, ∃ x10, ∃ x11, ∃ x12, ∃ x13, ∃ x14, ∃ x15, ∃ x16, ∃ x17, P x1 x2 x3 x4 x5 x6 x7 x8 x9 x10 x11 x12 x13 x14 x15 x16 x17) (k : ∀ x1, ∀ x2, ∀ x3, ∀ x4, ∀ x5, ∀ x6, ∀ x7, ∀ x8, ∀ x9, ∀ x10, ∀ x11, ∀ x12, ∀ x13, ∀ x14, ∀ x15, ∀ x16, ∀ x17, P x1 x2 x3 x4 x5 x6 x7 x8 x9 x10 x11 x12 x13 x14 x15 x16 x17 → G) : G := Exists.elim h fun x1 h1 => Exists.elim h1 fun x2 h2 => Exists.elim h2 fun x3 h3 => Exists.elim h3 fun x4 h4 => Exists.elim h4 fun x5 h5 => Exists.elim h5 fun x6 h6 => Exists.elim h6 fun x7 h7 => Exists.elim h7 fun x8 h8 => Exists.elim h8 fun x9 h9 => Exists.elim h9 fun x10 h10 => Exists.elim h10 fun x11 h11 => Exists.elim h11 fun x12 h12 => Exists.elim h12 fun x13 h13 => Exists.elim h13 fun x14 h14 => Exists.elim h14 fun x15 h15 => Exists.elim h15 fun x16 h16 => Exists.elim h16 fun x17 h17 => k x1 x2 x3 x4 x5 x6 x7 x8 x9 x10 x11 x12 x13 x14 x15 x16 x17 h17
theorem xi1 {T1 : Sort _} {P : T1 → Prop} (x1 : T1) (h : P x1) : ∃ x1, P x1 := ⟨x1, h⟩
theorem xi2 {T1 T2 : Sort _} {P : T1 → T2 → Prop} (x1 : T1) (x2 : T2) (h : P x1 x2) : ∃ x1, ∃ x2, P x1 x2 := ⟨x1, x2, h⟩
theorem xi3 {T1 T2 T3 : Sort _} {P : T1 → T2 → T3 → Prop} (x1 : T1) (x2 : T2) (x3 : T3) (h : P x1 x2 x3) : ∃ x1, ∃ x2, ∃ x3, P x1 x2 x3 := ⟨x1, x2, x3, h⟩
theorem xi4 {T1 T2 T3 T4 : Sort _} {P : T1 → T2 → T3 → T4 → Prop} (x1 : T1) (x2 : T2) (x3 : T3) (x4 : T4) (h : P x1 x2 x3 x4) : ∃ x1, ∃ x2, ∃ x3, ∃ x4, P x1 x2 x3 x4 := ⟨x1, x2, x3, x4, h⟩
theorem xi5 {T1 T2 T3 T4 T5 : Sort _} {P : T1 → T2 → T3 → T4 → T5 → Prop} (x1 : T1) (x2 : T2) (x3 : T3) (x4 : T4) (x5 : T5) (h : P x1 x2 x3 x4 x5) : ∃ x1, ∃ x2, ∃ x3, ∃ x4, ∃ x5, P x1 x2 x3 x4 x5 := ⟨x1, x2, x3, x4, x5, h⟩
theorem xi7 {T1 T2 T3 T4 T5 T6 T7 : Sort _} {P : T1 → T2 → T3 → T4 → T5 → T6 → T7 → Prop} (x1 : T1) (x2 : T2) (x3 : T3) (x4 : T4) (x5 : T5) (x6 : T6) (x7 : T7) (h : P x1 x2 x3 x4 x5 x6 x7) : ∃ x1, ∃ x2, ∃ x3, ∃ x4, ∃ x5, ∃ x6, ∃ x7, P x1 x2 x3 x4 x5 x6 x7 := ⟨x1, x2, x3, x4, x5, x6, x7, h⟩
theorem xi11 {T1 T2 T3 T4 T5 T6 T7 T8 T9 T10 T11 : Sort _} {P : T1 → T2 → T3 → T4 → T5 → T6 → T7 → T8 → T9 → T10 → T11 → Prop} (x1 : T1) (x2 : T2) (x3 : T3) (x4 : T4) (x5 : T5) (x6 : T6) (x7 : T7) (x8 : T8) (x9 : T9) (x10 : T10) (x11 : T11) (h : P x1 x2 x3 x4 x5 x6 x7 x8 x9 x10 x11) : ∃ x1, ∃ x2, ∃ x3, ∃ x4, ∃ x5, ∃ x6, ∃ x7, ∃ x8, ∃ x9, ∃ x10, ∃ x11, P x1 x2 x3 x4 x5 x6 x7 x8 x9 x10 x11 := ⟨x1, x2, x3, x4, x5, x6, x7, x8, x9, x10, x11, h⟩
theorem xi12 {T1 T2 T3 T4 T5 T6 T7 T8 T9 T10 T11 T12 : Sort _} {P : T1 → T2 → T3 → T4 → T5 → T6 → T7 → T8 → T9 → T10 → T11 → T12 → Prop} (x1 : T1) (x2 : T2) (x3 : T3) (x4 : T4) (x5 : T5) (x6 : T6) (x7 : T7) (x8 : T8) (x9 : T9) (x10 : T10) (x11 : T11) (x12 : T12) (h : P x1 x2 x3 x4 x5 x6 x7 x8 x9 x10 x11 x12) : ∃ x1, ∃ x2, ∃ x3, ∃ x4, ∃ x5, ∃ x6, ∃ x7, ∃ x8, ∃ x9, ∃ x10, ∃ x11, ∃ x12, P x1 x2 x3 x4 x5 x6 x7 x8 x9 x10 x11 x12 := ⟨x1, x2, x3, x4, x5, x6, x7, x8, x9, x10, x11, x12, h⟩
theorem xi13 {T1 T2 T3 T4 T5 T6 T7 T8 T9 T10 T11 T12 T13 : Sort _} {P : T1 → T2 → T3 → T4 → T5 → T6 → T7 → T8 → T9 → T10 → T11 → T12 → T13 → Prop} (x1 : T1) (x2 : T2) (x3 : T3) (x4 : T4) (x5 : T5) (x6 : T6) (x7 : T7) (x8 : T8) (x9 : T9) (x10 : T10) (x11 : T11) (x12 : T12) (x13 : T13) (h : P x1 x2 x3 x4 x5 x6 x7 x8 x9 x10 x11 x12 x13) : ∃ x1, ∃ x2, ∃ x3, ∃ x4, ∃ x5, ∃ x6, ∃ x7, ∃ x8, ∃ x9, ∃ x10, ∃ x11, ∃ x12, ∃ x13, P x1 x2 x3 x4 x5 x6 x7 x8 x9 x10 x11 x12 x13 := ⟨x1, x2, x3, x4, x5, x6, x7, x8, x9, x10, x11, x12, x13, h⟩
theorem xi15 {T1 T2 T3 T4 T5 T6 T7 T8 T9 T10 T11 T12 T13 T14 T15 : Sort _} {P : T1 → T2 → T3 → T4 → T5 → T6 → T7 → T8 → T9 → T10 → T11 → T12 → T13 → T14 → T15 → Prop} (x1 : T1) (x2 : T2) (x3 : T3) (x4 : T4) (x5 : T5) (x6 : T6) (x7 : T7) (x8 : T8) (x9 : T9) (x10 : T10) (x11 : T11) (x12 : T12) (x13 : T13) (x14 : T14) (x15 : T15) (h : P x1 x2 x3 x4 x5 x6 x7 x8 x9 x10 x11 x12 x13 x14 x15) : ∃ x1, ∃ x2, ∃ x3, ∃ x4, ∃ x5, ∃ x6, ∃ x7, ∃ x8, ∃ x9, ∃ x10, ∃ x11, ∃ x12, ∃ x13, ∃ x14, ∃ x15, P x1 x2 x3 x4 x5 x6 x7 x8 x9 x10 x11 x12 x13 x14 x15 := ⟨x1, x2, x3, x4, x5, x6, x7, x8, x9, x10, x11, x12, x13, x14, x15, h⟩
theorem oAAAAEEAA {T1 T2 : Sort _} {A1 A2 A3 A4 : Prop} {A5 A6 A7 : T1 → T2 → Prop} {G : Prop} (h : A1 ∧ A2 ∧ A3 ∧ A4 ∧ ∃ x1, ∃ x2, A5 x1 x2 ∧ A6 x1 x2 ∧ A7 x1 x2) (k : A1 → A2 → A3 → A4 → ∀ x1, ∀ x2, A5 x1 x2 → A6 x1 x2 → A7 x1 x2 → G) : G := an4 h fun a1 a2 a3 a4 h1 => ex2 h1 fun x1 x2 h2 => an2 h2 fun a5 a6 a7 => k a1 a2 a3 a4 x1 x2 a5 a6 a7
theorem oAEA {T1 : Sort _} {A1 : Prop} {A2 A3 : T1 → Prop} {G : Prop} (h : A1 ∧ ∃ x1, A2 x1 ∧ A3 x1) (k : A1 → ∀ x1, A2 x1 → A3 x1 → G) : G := an1 h fun a1 h1 => ex1 h1 fun x1 h2 => an1 h2 fun a2 a3 => k a1 x1 a2 a3
theorem oAEAA {T1 : Sort _} {A1 : Prop} {A2 A3 A4 : T1 → Prop} {G : Prop} (h : A1 ∧ ∃ x1, A2 x1 ∧ A3 x1 ∧ A4 x1) (k : A1 → ∀ x1, A2 x1 → A3 x1 → A4 x1 → G) : G := an1 h fun a1 h1 => ex1 h1 fun x1 h2 => an2 h2 fun a2 a3 a4 => k a1 x1 a2 a3 a4
theorem oAEEEEAAA {T1 T2 T3 T4 : Sort _} {A1 : Prop} {A2 A3 A4 A5 : T1 → T2 → T3 → T4 → Prop} {G : Prop} (h : A1 ∧ ∃ x1, ∃ x2, ∃ x3, ∃ x4, A2 x1 x2 x3 x4 ∧ A3 x1 x2 x3 x4 ∧ A4 x1 x2 x3 x4 ∧ A5 x1 x2 x3 x4) (k : A1 → ∀ x1, ∀ x2, ∀ x3, ∀ x4, A2 x1 x2 x3 x4 → A3 x1 x2 x3 x4 → A4 x1 x2 x3 x4 → A5 x1 x2 x3 x4 → G) : G := an1 h fun a1 h1 => ex4 h1 fun x1 x2 x3 x4 h2 => an3 h2 fun a2 a3 a4 a5 => k a1 x1 x2 x3 x4 a2 a3 a4 a5
theorem oEA {T1 : Sort _} {A1 A2 : T1 → Prop} {G : Prop} (h : ∃ x1, A1 x1 ∧ A2 x1) (k : ∀ x1, A1 x1 → A2 x1 → G) : G := ex1 h fun x1 h1 => an1 h1 fun a1 a2 => k x1 a1 a2
theorem oEAA {T1 : Sort _} {A1 A2 A3 : T1 → Prop} {G : Prop} (h : ∃ x1, A1 x1 ∧ A2 x1 ∧ A3 x1) (k : ∀ x1, A1 x1 → A2 x1 → A3 x1 → G) : G := ex1 h fun x1 h1 => an2 h1 fun a1 a2 a3 => k x1 a1 a2 a3
theorem oEAAA {T1 : Sort _} {A1 A2 A3 A4 : T1 → Prop} {G : Prop} (h : ∃ x1, A1 x1 ∧ A2 x1 ∧ A3 x1 ∧ A4 x1) (k : ∀ x1, A1 x1 → A2 x1 → A3 x1 → A4 x1 → G) : G := ex1 h fun x1 h1 => an3 h1 fun a1 a2 a3 a4 => k x1 a1 a2 a3 a4
theorem oEAAAA {T1 : Sort _} {A1 A2 A3 A4 A5 : T1 → Prop} {G : Prop} (h : ∃ x1, A1 x1 ∧ A2 x1 ∧ A3 x1 ∧ A4 x1 ∧ A5 x1) (k : ∀ x1, A1 x1 → A2 x1 → A3 x1 → A4 x1 → A5 x1 → G) : G := ex1 h fun x1 h1 => an4 h1 fun a1 a2 a3 a4 a5 => k x1 a1 a2 a3 a4 a5
theorem oEAAE {T1 T2 : Sort _} {A1 A2 : T1 → Prop} {A3 : T1 → T2 → Prop} {G : Prop} (h : ∃ x1, A1 x1 ∧ A2 x1 ∧ ∃ x2, A3 x1 x2) (k : ∀ x1, A1 x1 → A2 x1 → ∀ x2, A3 x1 x2 → G) : G := ex1 h fun x1 h1 => an2 h1 fun a1 a2 h2 => ex1 h2 fun x2 a3 => k x1 a1 a2 x2 a3
theorem oEEA {T1 T2 : Sort _} {A1 A2 : T1 → T2 → Prop} {G : Prop} (h : ∃ x1, ∃ x2, A1 x1 x2 ∧ A2 x1 x2) (k : ∀ x1, ∀ x2, A1 x1 x2 → A2 x1 x2 → G) : G := ex2 h fun x1 x2 h1 => an1 h1 fun a1 a2 => k x1 x2 a1 a2
theorem oEEAA {T1 T2 : Sort _} {A1 A2 A3 : T1 → T2 → Prop} {G : Prop} (h : ∃ x1, ∃ x2, A1 x1 x2 ∧ A2 x1 x2 ∧ A3 x1 x2) (k : ∀ x1, ∀ x2, A1 x1 x2 → A2 x1 x2 → A3 x1 x2 → G) : G := ex2 h fun x1 x2 h1 => an2 h1 fun a1 a2 a3 => k x1 x2 a1 a2 a3
theorem oEEAAA {T1 T2 : Sort _} {A1 A2 A3 A4 : T1 → T2 → Prop} {G : Prop} (h : ∃ x1, ∃ x2, A1 x1 x2 ∧ A2 x1 x2 ∧ A3 x1 x2 ∧ A4 x1 x2) (k : ∀ x1, ∀ x2, A1 x1 x2 → A2 x1 x2 → A3 x1 x2 → A4 x1 x2 → G) : G := ex2 h fun x1 x2 h1 => an3 h1 fun a1 a2 a3 a4 => k x1 x2 a1 a2 a3 a4
theorem oEEAAAA {T1 T2 : Sort _} {A1 A2 A3 A4 A5 : T1 → T2 → Prop} {G : Prop} (h : ∃ x1, ∃ x2, A1 x1 x2 ∧ A2 x1 x2 ∧ A3 x1 x2 ∧ A4 x1 x2 ∧ A5 x1 x2) (k : ∀ x1, ∀ x2, A1 x1 x2 → A2 x1 x2 → A3 x1 x2 → A4 x1 x2 → A5 x1 x2 → G) : G := ex2 h fun x1 x2 h1 => an4 h1 fun a1 a2 a3 a4 a5 => k x1 x2 a1 a2 a3 a4 a5
theorem oEEEA {T1 T2 T3 : Sort _} {A1 A2 : T1 → T2 → T3 → Prop} {G : Prop} (h : ∃ x1, ∃ x2, ∃ x3, A1 x1 x2 x3 ∧ A2 x1 x2 x3) (k : ∀ x1, ∀ x2, ∀ x3, A1 x1 x2 x3 → A2 x1 x2 x3 → G) : G := ex3 h fun x1 x2 x3 h1 => an1 h1 fun a1 a2 => k x1 x2 x3 a1 a2
theorem oEEEAAA {T1 T2 T3 : Sort _} {A1 A2 A3 A4 : T1 → T2 → T3 → Prop} {G : Prop} (h : ∃ x1, ∃ x2, ∃ x3, A1 x1 x2 x3 ∧ A2 x1 x2 x3 ∧ A3 x1 x2 x3 ∧ A4 x1 x2 x3) (k : ∀ x1, ∀ x2, ∀ x3, A1 x1 x2 x3 → A2 x1 x2 x3 → A3 x1 x2 x3 → A4 x1 x2 x3 → G) : G := ex3 h fun x1 x2 x3 h1 => an3 h1 fun a1 a2 a3 a4 => k x1 x2 x3 a1 a2 a3 a4
theorem oEEEAAAA {T1 T2 T3 : Sort _} {A1 A2 A3 A4 A5 : T1 → T2 → T3 → Prop} {G : Prop} (h : ∃ x1, ∃ x2, ∃ x3, A1 x1 x2 x3 ∧ A2 x1 x2 x3 ∧ A3 x1 x2 x3 ∧ A4 x1 x2 x3 ∧ A5 x1 x2 x3) (k : ∀ x1, ∀ x2, ∀ x3, A1 x1 x2 x3 → A2 x1 x2 x3 → A3 x1 x2 x3 → A4 x1 x2 x3 → A5 x1 x2 x3 → G) : G := ex3 h fun x1 x2 x3 h1 => an4 h1 fun a1 a2 a3 a4 a5 => k x1 x2 x3 a1 a2 a3 a4 a5
theorem oEEEAAAAA {T1 T2 T3 : Sort _} {A1 A2 A3 A4 A5 A6 : T1 → T2 → T3 → Prop} {G : Prop} (h : ∃ x1, ∃ x2, ∃ x3, A1 x1 x2 x3 ∧ A2 x1 x2 x3 ∧ A3 x1 x2 x3 ∧ A4 x1 x2 x3 ∧ A5 x1 x2 x3 ∧ A6 x1 x2 x3) (k : ∀ x1, ∀ x2, ∀ x3, A1 x1 x2 x3 → A2 x1 x2 x3 → A3 x1 x2 x3 → A4 x1 x2 x3 → A5 x1 x2 x3 → A6 x1 x2 x3 → G) : G := ex3 h fun x1 x2 x3 h1 => an5 h1 fun a1 a2 a3 a4 a5 a6 => k x1 x2 x3 a1 a2 a3 a4 a5 a6
theorem oEEEEA {T1 T2 T3 T4 : Sort _} {A1 A2 : T1 → T2 → T3 → T4 → Prop} {G : Prop} (h : ∃ x1, ∃ x2, ∃ x3, ∃ x4, A1 x1 x2 x3 x4 ∧ A2 x1 x2 x3 x4) (k : ∀ x1, ∀ x2, ∀ x3, ∀ x4, A1 x1 x2 x3 x4 → A2 x1 x2 x3 x4 → G) : G := ex4 h fun x1 x2 x3 x4 h1 => an1 h1 fun a1 a2 => k x1 x2 x3 x4 a1 a2
theorem oEEEEAAA {T1 T2 T3 T4 : Sort _} {A1 A2 A3 A4 : T1 → T2 → T3 → T4 → Prop} {G : Prop} (h : ∃ x1, ∃ x2, ∃ x3, ∃ x4, A1 x1 x2 x3 x4 ∧ A2 x1 x2 x3 x4 ∧ A3 x1 x2 x3 x4 ∧ A4 x1 x2 x3 x4) (k : ∀ x1, ∀ x2, ∀ x3, ∀ x4, A1 x1 x2 x3 x4 → A2 x1 x2 x3 x4 → A3 x1 x2 x3 x4 → A4 x1 x2 x3 x4 → G) : G := ex4 h fun x1 x2 x3 x4 h1 => an3 h1 fun a1 a2 a3 a4 => k x1 x2 x3 x4 a1 a2 a3 a4
theorem oEEEEAAAA {T1 T2 T3 T4 : Sort _} {A1 A2 A3 A4 A5 : T1 → T2 → T3 → T4 → Prop} {G : Prop} (h : ∃ x1, ∃ x2, ∃ x3, ∃ x4, A1 x1 x2 x3 x4 ∧ A2 x1 x2 x3 x4 ∧ A3 x1 x2 x3 x4 ∧ A4 x1 x2 x3 x4 ∧ A5 x1 x2 x3 x4) (k : ∀ x1, ∀ x2, ∀ x3, ∀ x4, A1 x1 x2 x3 x4 → A2 x1 x2 x3 x4 → A3 x1 x2 x3 x4 → A4 x1 x2 x3 x4 → A5 x1 x2 x3 x4 → G) : G := ex4 h fun x1 x2 x3 x4 h1 => an4 h1 fun a1 a2 a3 a4 a5 => k x1 x2 x3 x4 a1 a2 a3 a4 a5
theorem oEEEEAAAAA {T1 T2 T3 T4 : Sort _} {A1 A2 A3 A4 A5 A6 : T1 → T2 → T3 → T4 → Prop} {G : Prop} (h : ∃ x1, ∃ x2, ∃ x3, ∃ x4, A1 x1 x2 x3 x4 ∧ A2 x1 x2 x3 x4 ∧ A3 x1 x2 x3 x4 ∧ A4 x1 x2 x3 x4 ∧ A5 x1 x2 x3 x4 ∧ A6 x1 x2 x3 x4) (k : ∀ x1, ∀ x2, ∀ x3, ∀ x4, A1 x1 x2 x3 x4 → A2 x1 x2 x3 x4 → A3 x1 x2 x3 x4 → A4 x1 x2 x3 x4 → A5 x1 x2 x3 x4 → A6 x1 x2 x3 x4 → G) : G := ex4 h fun x1 x2 x3 x4 h1 => an5 h1 fun a1 a2 a3 a4 a5 a6 => k x1 x2 x3 x4 a1 a2 a3 a4 a5 a6
theorem oEEEEAAAAAAA {T1 T2 T3 T4 : Sort _} {A1 A2 A3 A4 A5 A6 A7 A8 : T1 → T2 → T3 → T4 → Prop} {G : Prop} (h : ∃ x1, ∃ x2, ∃ x3, ∃ x4, A1 x1 x2 x3 x4 ∧ A2 x1 x2 x3 x4 ∧ A3 x1 x2 x3 x4 ∧ A4 x1 x2 x3 x4 ∧ A5 x1 x2 x3 x4 ∧ A6 x1 x2 x3 x4 ∧ A7 x1 x2 x3 x4 ∧ A8 x1 x2 x3 x4) (k : ∀ x1, ∀ x2, ∀ x3, ∀ x4, A1 x1 x2 x3 x4 → A2 x1 x2 x3 x4 → A3 x1 x2 x3 x4 → A4 x1 x2 x3 x4 → A5 x1 x2 x3 x4 → A6 x1 x2 x3 x4 → A7 x1 x2 x3 x4 → A8 x1 x2 x3 x4 → G) : G := ex4 h fun x1 x2 x3 x4 h1 => an7 h1 fun a1 a2 a3 a4 a5 a6 a7 a8 => k x1 x2 x3 x4 a1 a2 a3 a4 a5 a6 a7 a8
theorem oEEEEEAAA {T1 T2 T3 T4 T5 : Sort _} {A1 A2 A3 A4 : T1 → T2 → T3 → T4 → T5 → Prop} {G : Prop} (h : ∃ x1, ∃ x2, ∃ x3, ∃ x4, ∃ x5, A1 x1 x2 x3 x4 x5 ∧ A2 x1 x2 x3 x4 x5 ∧ A3 x1 x2 x3 x4 x5 ∧ A4 x1 x2 x3 x4 x5) (k : ∀ x1, ∀ x2, ∀ x3, ∀ x4, ∀ x5, A1 x1 x2 x3 x4 x5 → A2 x1 x2 x3 x4 x5 → A3 x1 x2 x3 x4 x5 → A4 x1 x2 x3 x4 x5 → G) : G := ex5 h fun x1 x2 x3 x4 x5 h1 => an3 h1 fun a1 a2 a3 a4 => k x1 x2 x3 x4 x5 a1 a2 a3 a4
theorem oEEEEEAAAA {T1 T2 T3 T4 T5 : Sort _} {A1 A2 A3 A4 A5 : T1 → T2 → T3 → T4 → T5 → Prop} {G : Prop} (h : ∃ x1, ∃ x2, ∃ x3, ∃ x4, ∃ x5, A1 x1 x2 x3 x4 x5 ∧ A2 x1 x2 x3 x4 x5 ∧ A3 x1 x2 x3 x4 x5 ∧ A4 x1 x2 x3 x4 x5 ∧ A5 x1 x2 x3 x4 x5) (k : ∀ x1, ∀ x2, ∀ x3, ∀ x4, ∀ x5, A1 x1 x2 x3 x4 x5 → A2 x1 x2 x3 x4 x5 → A3 x1 x2 x3 x4 x5 → A4 x1 x2 x3 x4 x5 → A5 x1 x2 x3 x4 x5 → G) : G := ex5 h fun x1 x2 x3 x4 x5 h1 => an4 h1 fun a1 a2 a3 a4 a5 => k x1 x2 x3 x4 x5 a1 a2 a3 a4 a5
theorem oEEEEEAAAAAA {T1 T2 T3 T4 T5 : Sort _} {A1 A2 A3 A4 A5 A6 A7 : T1 → T2 → T3 → T4 → T5 → Prop} {G : Prop} (h : ∃ x1, ∃ x2, ∃ x3, ∃ x4, ∃ x5, A1 x1 x2 x3 x4 x5 ∧ A2 x1 x2 x3 x4 x5 ∧ A3 x1 x2 x3 x4 x5 ∧ A4 x1 x2 x3 x4 x5 ∧ A5 x1 x2 x3 x4 x5 ∧ A6 x1 x2 x3 x4 x5 ∧ A7 x1 x2 x3 x4 x5) (k : ∀ x1, ∀ x2, ∀ x3, ∀ x4, ∀ x5, A1 x1 x2 x3 x4 x5 → A2 x1 x2 x3 x4 x5 → A3 x1 x2 x3 x4 x5 → A4 x1 x2 x3 x4 x5 → A5 x1 x2 x3 x4 x5 → A6 x1 x2 x3 x4 x5 → A7 x1 x2 x3 x4 x5 → G) : G := ex5 h fun x1 x2 x3 x4 x5 h1 => an6 h1 fun a1 a2 a3 a4 a5 a6 a7 => k x1 x2 x3 x4 x5 a1 a2 a3 a4 a5 a6 a7
theorem oEEEEEAAAAAAA {T1 T2 T3 T4 T5 : Sort _} {A1 A2 A3 A4 A5 A6 A7 A8 : T1 → T2 → T3 → T4 → T5 → Prop} {G : Prop} (h : ∃ x1, ∃ x2, ∃ x3, ∃ x4, ∃ x5, A1 x1 x2 x3 x4 x5 ∧ A2 x1 x2 x3 x4 x5 ∧ A3 x1 x2 x3 x4 x5 ∧ A4 x1 x2 x3 x4 x5 ∧ A5 x1 x2 x3 x4 x5 ∧ A6 x1 x2 x3 x4 x5 ∧ A7 x1 x2 x3 x4 x5 ∧ A8 x1 x2 x3 x4 x5) (k : ∀ x1, ∀ x2, ∀ x3, ∀ x4, ∀ x5, A1 x1 x2 x3 x4 x5 → A2 x1 x2 x3 x4 x5 → A3 x1 x2 x3 x4 x5 → A4 x1 x2 x3 x4 x5 → A5 x1 x2 x3 x4 x5 → A6 x1 x2 x3 x4 x5 → A7 x1 x2 x3 x4 x5 → A8 x1 x2 x3 x4 x5 → G) : G := ex5 h fun x1 x2 x3 x4 x5 h1 => an7 h1 fun a1 a2 a3 a4 a5 a6 a7 a8 => k x1 x2 x3 x4 x5 a1 a2 a3 a4 a5 a6 a7 a8
theorem oEEEEEEAAAAAAAA {T1 T2 T3 T4 T5 T6 : Sort _} {A1 A2 A3 A4 A5 A6 A7 A8 A9 : T1 → T2 → T3 → T4 → T5 → T6 → Prop} {G : Prop} (h : ∃ x1, ∃ x2, ∃ x3, ∃ x4, ∃ x5, ∃ x6, A1 x1 x2 x3 x4 x5 x6 ∧ A2 x1 x2 x3 x4 x5 x6 ∧ A3 x1 x2 x3 x4 x5 x6 ∧ A4 x1 x2 x3 x4 x5 x6 ∧ A5 x1 x2 x3 x4 x5 x6 ∧ A6 x1 x2 x3 x4 x5 x6 ∧ A7 x1 x2 x3 x4 x5 x6 ∧ A8 x1 x2 x3 x4 x5 x6 ∧ A9 x1 x2 x3 x4 x5 x6) (k : ∀ x1, ∀ x2, ∀ x3, ∀ x4, ∀ x5, ∀ x6, A1 x1 x2 x3 x4 x5 x6 → A2 x1 x2 x3 x4 x5 x6 → A3 x1 x2 x3 x4 x5 x6 → A4 x1 x2 x3 x4 x5 x6 → A5 x1 x2 x3 x4 x5 x6 → A6 x1 x2 x3 x4 x5 x6 → A7 x1 x2 x3 x4 x5 x6 → A8 x1 x2 x3 x4 x5 x6 → A9 x1 x2 x3 x4 x5 x6 → G) : G := ex6 h fun x1 x2 x3 x4 x5 x6 h1 => an8 h1 fun a1 a2 a3 a4 a5 a6 a7 a8 a9 => k x1 x2 x3 x4 x5 x6 a1 a2 a3 a4 a5 a6 a7 a8 a9
theorem oEEEEEEEAAAAAAAA {T1 T2 T3 T4 T5 T6 T7 : Sort _} {A1 A2 A3 A4 A5 A6 A7 A8 A9 : T1 → T2 → T3 → T4 → T5 → T6 → T7 → Prop} {G : Prop} (h : ∃ x1, ∃ x2, ∃ x3, ∃ x4, ∃ x5, ∃ x6, ∃ x7, A1 x1 x2 x3 x4 x5 x6 x7 ∧ A2 x1 x2 x3 x4 x5 x6 x7 ∧ A3 x1 x2 x3 x4 x5 x6 x7 ∧ A4 x1 x2 x3 x4 x5 x6 x7 ∧ A5 x1 x2 x3 x4 x5 x6 x7 ∧ A6 x1 x2 x3 x4 x5 x6 x7 ∧ A7 x1 x2 x3 x4 x5 x6 x7 ∧ A8 x1 x2 x3 x4 x5 x6 x7 ∧ A9 x1 x2 x3 x4 x5 x6 x7) (k : ∀ x1, ∀ x2, ∀ x3, ∀ x4, ∀ x5, ∀ x6, ∀ x7, A1 x1 x2 x3 x4 x5 x6 x7 → A2 x1 x2 x3 x4 x5 x6 x7 → A3 x1 x2 x3 x4 x5 x6 x7 → A4 x1 x2 x3 x4 x5 x6 x7 → A5 x1 x2 x3 x4 x5 x6 x7 → A6 x1 x2 x3 x4 x5 x6 x7 → A7 x1 x2 x3 x4 x5 x6 x7 → A8 x1 x2 x3 x4 x5 x6 x7 → A9 x1 x2 x3 x4 x5 x6 x7 → G) : G := ex7 h fun x1 x2 x3 x4 x5 x6 x7 h1 => an8 h1 fun a1 a2 a3 a4 a5 a6 a7 a8 a9 => k x1 x2 x3 x4 x5 x6 x7 a1 a2 a3 a4 a5 a6 a7 a8 a9
theorem oEEEEEEEEAAAAAAAAAA {T1 T2 T3 T4 T5 T6 T7 T8 : Sort _} {A1 A2 A3 A4 A5 A6 A7 A8 A9 A10 A11 : T1 → T2 → T3 → T4 → T5 → T6 → T7 → T8 → Prop} {G : Prop} (h : ∃ x1, ∃ x2, ∃ x3, ∃ x4, ∃ x5, ∃ x6, ∃ x7, ∃ x8, A1 x1 x2 x3 x4 x5 x6 x7 x8 ∧ A2 x1 x2 x3 x4 x5 x6 x7 x8 ∧ A3 x1 x2 x3 x4 x5 x6 x7 x8 ∧ A4 x1 x2 x3 x4 x5 x6 x7 x8 ∧ A5 x1 x2 x3 x4 x5 x6 x7 x8 ∧ A6 x1 x2 x3 x4 x5 x6 x7 x8 ∧ A7 x1 x2 x3 x4 x5 x6 x7 x8 ∧ A8 x1 x2 x3 x4 x5 x6 x7 x8 ∧ A9 x1 x2 x3 x4 x5 x6 x7 x8 ∧ A10 x1 x2 x3 x4 x5 x6 x7 x8 ∧ A11 x1 x2 x3 x4 x5 x6 x7 x8) (k : ∀ x1, ∀ x2, ∀ x3, ∀ x4, ∀ x5, ∀ x6, ∀ x7, ∀ x8, A1 x1 x2 x3 x4 x5 x6 x7 x8 → A2 x1 x2 x3 x4 x5 x6 x7 x8 → A3 x1 x2 x3 x4 x5 x6 x7 x8 → A4 x1 x2 x3 x4 x5 x6 x7 x8 → A5 x1 x2 x3 x4 x5 x6 x7 x8 → A6 x1 x2 x3 x4 x5 x6 x7 x8 → A7 x1 x2 x3 x4 x5 x6 x7 x8 → A8 x1 x2 x3 x4 x5 x6 x7 x8 → A9 x1 x2 x3 x4 x5 x6 x7 x8 → A10 x1 x2 x3 x4 x5 x6 x7 x8 → A11 x1 x2 x3 x4 x5 x6 x7 x8 → G) : G := ex8 h fun x1 x2 x3 x4 x5 x6 x7 x8 h1 => an10 h1 fun a1 a2 a3 a4 a5 a6 a7 a8 a9 a10 a11 => k x1 x2 x3 x4 x5 x6 x7 x8 a1 a2 a3 a4 a5 a6 a7 a8 a9 a10 a11
theorem oEEEEEEEEEEAAAAAAAAA {T1 T2 T3 T4 T5 T6 T7 T8 T9 T10 : Sort _} {A1 A2 A3 A4 A5 A6 A7 A8 A9 A10 : T1 → T2 → T3 → T4 → T5 → T6 → T7 → T8 → T9 → T10 → Prop} {G : Prop} (h : ∃ x1, ∃ x2, ∃ x3, ∃ x4, ∃ x5, ∃ x6, ∃ x7, ∃ x8, ∃ x9, ∃ x10, A1 x1 x2 x3 x4 x5 x6 x7 x8 x9 x10 ∧ A2 x1 x2 x3 x4 x5 x6 x7 x8 x9 x10 ∧ A3 x1 x2 x3 x4 x5 x6 x7 x8 x9 x10 ∧ A4 x1 x2 x3 x4 x5 x6 x7 x8 x9 x10 ∧ A5 x1 x2 x3 x4 x5 x6 x7 x8 x9 x10 ∧ A6 x1 x2 x3 x4 x5 x6 x7 x8 x9 x10 ∧ A7 x1 x2 x3 x4 x5 x6 x7 x8 x9 x10 ∧ A8 x1 x2 x3 x4 x5 x6 x7 x8 x9 x10 ∧ A9 x1 x2 x3 x4 x5 x6 x7 x8 x9 x10 ∧ A10 x1 x2 x3 x4 x5 x6 x7 x8 x9 x10) (k : ∀ x1, ∀ x2, ∀ x3, ∀ x4, ∀ x5, ∀ x6, ∀ x7, ∀ x8, ∀ x9, ∀ x10, A1 x1 x2 x3 x4 x5 x6 x7 x8 x9 x10 → A2 x1 x2 x3 x4 x5 x6 x7 x8 x9 x10 → A3 x1 x2 x3 x4 x5 x6 x7 x8 x9 x10 → A4 x1 x2 x3 x4 x5 x6 x7 x8 x9 x10 → A5 x1 x2 x3 x4 x5 x6 x7 x8 x9 x10 → A6 x1 x2 x3 x4 x5 x6 x7 x8 x9 x10 → A7 x1 x2 x3 x4 x5 x6 x7 x8 x9 x10 → A8 x1 x2 x3 x4 x5 x6 x7 x8 x9 x10 → A9 x1 x2 x3 x4 x5 x6 x7 x8 x9 x10 → A10 x1 x2 x3 x4 x5 x6 x7 x8 x9 x10 → G) : G := ex10 h fun x1 x2 x3 x4 x5 x6 x7 x8 x9 x10 h1 => an9 h1 fun a1 a2 a3 a4 a5 a6 a7 a8 a9 a10 => k x1 x2 x3 x4 x5 x6 x7 x8 x9 x10 a1 a2 a3 a4 a5 a6 a7 a8 a9 a10
theorem oEEEEEEEEEEEEEEEEEAAA {T1 T2 T3 T4 T5 T6 T7 T8 T9 T10 T11 T12 T13 T14 T15 T16 T17 : Sort _} {A1 A2 A3 A4 : T1 → T2 → T3 → T4 → T5 → T6 → T7 → T8 → T9 → T10 → T11 → T12 → T13 → T14 → T15 → T16 → T17 → Prop} {G : Prop} (h : ∃ x1, ∃ x2, ∃ x3, ∃ x4, ∃ x5, ∃ x6, ∃ x7, ∃ x8, ∃ x9, ∃ x10, ∃ x11, ∃ x12, ∃ x13, ∃ x14, ∃ x15, ∃ x16, ∃ x17, A1 x1 x2 x3 x4 x5 x6 x7 x8 x9 x10 x11 x12 x13 x14 x15 x16 x17 ∧ A2 x1 x2 x3 x4 x5 x6 x7 x8 x9 x10 x11 x12 x13 x14 x15 x16 x17 ∧ A3 x1 x2 x3 x4 x5 x6 x7 x8 x9 x10 x11 x12 x13 x14 x15 x16 x17 ∧ A4 x1 x2 x3 x4 x5 x6 x7 x8 x9 x10 x11 x12 x13 x14 x15 x16 x17) (k : ∀ x1, ∀ x2, ∀ x3, ∀ x4, ∀ x5, ∀ x6, ∀ x7, ∀ x8, ∀ x9, ∀ x10, ∀ x11, ∀ x12, ∀ x13, ∀ x14, ∀ x15, ∀ x16, ∀ x17, A1 x1 x2 x3 x4 x5 x6 x7 x8 x9 x10 x11 x12 x13 x14 x15 x16 x17 → A2 x1 x2 x3 x4 x5 x6 x7 x8 x9 x10 x11 x12 x13 x14 x15 x16 x17 → A3 x1 x2 x3 x4 x5 x6 x7 x8 x9 x10 x11 x12 x13 x14 x15 x16 x17 → A4 x1 x2 x3 x4 x5 x6 x7 x8 x9 x10 x11 x12 x13 x14 x15 x16 x17 → G) : G := ex17 h fun x1 x2 x3 x4 x5 x6 x7 x8 x9 x10 x11 x12 x13 x14 x15 x16 x17 h1 => an3 h1 fun a1 a2 a3 a4 => k x1 x2 x3 x4 x5 x6 x7 x8 x9 x10 x11 x12 x13 x14 x15 x16 x17 a1 a2 a3 a4
theorem letX2_1_2io {R0 R1 T0 : Sort _} {A0 A1 : R0 → R1 → T0 → Prop} {G : Prop} (v : R0 → R1 → Prop) (h : ∀ a0 a1, v a0 a1 ↔ ∃ x0, A0 a0 a1 x0 ∧ A1 a0 a1 x0) (k : ∀ J : R0 → R1 → Prop, (∀ a0 a1 x0, A0 a0 a1 x0 → A1 a0 a1 x0 → J a0 a1) → (∀ a0 a1, J a0 a1 → ∀ G : Prop, (∀ x0, A0 a0 a1 x0 → A1 a0 a1 x0 → G) → G) → G) : G := k v (fun a0 a1 x0 b0 b1 => (h a0 a1).mpr (xi1 x0 (cj2 b0 b1))) (fun a0 a1 j _ k => ex1 ((h a0 a1).mp j) fun x0 q => an1 q (k x0))
theorem letX2_2_4eo {R0 R1 T0 T1 : Sort _} {A0 A1 A2 A3 : R0 → R1 → T0 → T1 → Prop} {G : Prop} (v : R0 → R1 → Prop) (h : ∀ a0 a1, v a0 a1 ↔ ∃ x0, ∃ x1, A0 a0 a1 x0 x1 ∧ A1 a0 a1 x0 x1 ∧ A2 a0 a1 x0 x1 ∧ A3 a0 a1 x0 x1) (k : ∀ J : R0 → R1 → Prop, (∀ a0 a1, J a0 a1 = v a0 a1) → (∀ a0 a1, J a0 a1 → ∀ G : Prop, (∀ x0 x1, A0 a0 a1 x0 x1 → A1 a0 a1 x0 x1 → A2 a0 a1 x0 x1 → A3 a0 a1 x0 x1 → G) → G) → G) : G := k v (fun _ _ => rfl) (fun a0 a1 j _ k => ex2 ((h a0 a1).mp j) fun x0 x1 q => an3 q (k x0 x1))
theorem letX2_2_4io {R0 R1 T0 T1 : Sort _} {A0 A1 A2 A3 : R0 → R1 → T0 → T1 → Prop} {G : Prop} (v : R0 → R1 → Prop) (h : ∀ a0 a1, v a0 a1 ↔ ∃ x0, ∃ x1, A0 a0 a1 x0 x1 ∧ A1 a0 a1 x0 x1 ∧ A2 a0 a1 x0 x1 ∧ A3 a0 a1 x0 x1) (k : ∀ J : R0 → R1 → Prop, (∀ a0 a1 x0 x1, A0 a0 a1 x0 x1 → A1 a0 a1 x0 x1 → A2 a0 a1 x0 x1 → A3 a0 a1 x0 x1 → J a0 a1) → (∀ a0 a1, J a0 a1 → ∀ G : Prop, (∀ x0 x1, A0 a0 a1 x0 x1 → A1 a0 a1 x0 x1 → A2 a0 a1 x0 x1 → A3 a0 a1 x0 x1 → G) → G) → G) : G := k v (fun a0 a1 x0 x1 b0 b1 b2 b3 => (h a0 a1).mpr (xi2 x0 x1 (cj4 b0 b1 b2 b3))) (fun a0 a1 j _ k => ex2 ((h a0 a1).mp j) fun x0 x1 q => an3 q (k x0 x1))
theorem letX2_3_5eo {R0 R1 T0 T1 T2 : Sort _} {A0 A1 A2 A3 A4 : R0 → R1 → T0 → T1 → T2 → Prop} {G : Prop} (v : R0 → R1 → Prop) (h : ∀ a0 a1, v a0 a1 ↔ ∃ x0, ∃ x1, ∃ x2, A0 a0 a1 x0 x1 x2 ∧ A1 a0 a1 x0 x1 x2 ∧ A2 a0 a1 x0 x1 x2 ∧ A3 a0 a1 x0 x1 x2 ∧ A4 a0 a1 x0 x1 x2) (k : ∀ J : R0 → R1 → Prop, (∀ a0 a1, J a0 a1 = v a0 a1) → (∀ a0 a1, J a0 a1 → ∀ G : Prop, (∀ x0 x1 x2, A0 a0 a1 x0 x1 x2 → A1 a0 a1 x0 x1 x2 → A2 a0 a1 x0 x1 x2 → A3 a0 a1 x0 x1 x2 → A4 a0 a1 x0 x1 x2 → G) → G) → G) : G := k v (fun _ _ => rfl) (fun a0 a1 j _ k => ex3 ((h a0 a1).mp j) fun x0 x1 x2 q => an4 q (k x0 x1 x2))
theorem letX2_3_5io {R0 R1 T0 T1 T2 : Sort _} {A0 A1 A2 A3 A4 : R0 → R1 → T0 → T1 → T2 → Prop} {G : Prop} (v : R0 → R1 → Prop) (h : ∀ a0 a1, v a0 a1 ↔ ∃ x0, ∃ x1, ∃ x2, A0 a0 a1 x0 x1 x2 ∧ A1 a0 a1 x0 x1 x2 ∧ A2 a0 a1 x0 x1 x2 ∧ A3 a0 a1 x0 x1 x2 ∧ A4 a0 a1 x0 x1 x2) (k : ∀ J : R0 → R1 → Prop, (∀ a0 a1 x0 x1 x2, A0 a0 a1 x0 x1 x2 → A1 a0 a1 x0 x1 x2 → A2 a0 a1 x0 x1 x2 → A3 a0 a1 x0 x1 x2 → A4 a0 a1 x0 x1 x2 → J a0 a1) → (∀ a0 a1, J a0 a1 → ∀ G : Prop, (∀ x0 x1 x2, A0 a0 a1 x0 x1 x2 → A1 a0 a1 x0 x1 x2 → A2 a0 a1 x0 x1 x2 → A3 a0 a1 x0 x1 x2 → A4 a0 a1 x0 x1 x2 → G) → G) → G) : G := k v (fun a0 a1 x0 x1 x2 b0 b1 b2 b3 b4 => (h a0 a1).mpr (xi3 x0 x1 x2 (cj5 b0 b1 b2 b3 b4))) (fun a0 a1 j _ k => ex3 ((h a0 a1).mp j) fun x0 x1 x2 q => an4 q (k x0 x1 x2))
theorem letX2_3_6eio {R0 R1 T0 T1 T2 : Sort _} {A0 A1 A2 A3 A4 A5 : R0 → R1 → T0 → T1 → T2 → Prop} {G : Prop} (v : R0 → R1 → Prop) (h : ∀ a0 a1, v a0 a1 ↔ ∃ x0, ∃ x1, ∃ x2, A0 a0 a1 x0 x1 x2 ∧ A1 a0 a1 x0 x1 x2 ∧ A2 a0 a1 x0 x1 x2 ∧ A3 a0 a1 x0 x1 x2 ∧ A4 a0 a1 x0 x1 x2 ∧ A5 a0 a1 x0 x1 x2) (k : ∀ J : R0 → R1 → Prop, (∀ a0 a1, J a0 a1 = v a0 a1) → (∀ a0 a1 x0 x1 x2, A0 a0 a1 x0 x1 x2 → A1 a0 a1 x0 x1 x2 → A2 a0 a1 x0 x1 x2 → A3 a0 a1 x0 x1 x2 → A4 a0 a1 x0 x1 x2 → A5 a0 a1 x0 x1 x2 → J a0 a1) → (∀ a0 a1, J a0 a1 → ∀ G : Prop, (∀ x0 x1 x2, A0 a0 a1 x0 x1 x2 → A1 a0 a1 x0 x1 x2 → A2 a0 a1 x0 x1 x2 → A3 a0 a1 x0 x1 x2 → A4 a0 a1 x0 x1 x2 → A5 a0 a1 x0 x1 x2 → G) → G) → G) : G := k v (fun _ _ => rfl) (fun a0 a1 x0 x1 x2 b0 b1 b2 b3 b4 b5 => (h a0 a1).mpr (xi3 x0 x1 x2 (cj6 b0 b1 b2 b3 b4 b5))) (fun a0 a1 j _ k => ex3 ((h a0 a1).mp j) fun x0 x1 x2 q => an5 q (k x0 x1 x2))
theorem letX2_4_6eo {R0 R1 T0 T1 T2 T3 : Sort _} {A0 A1 A2 A3 A4 A5 : R0 → R1 → T0 → T1 → T2 → T3 → Prop} {G : Prop} (v : R0 → R1 → Prop) (h : ∀ a0 a1, v a0 a1 ↔ ∃ x0, ∃ x1, ∃ x2, ∃ x3, A0 a0 a1 x0 x1 x2 x3 ∧ A1 a0 a1 x0 x1 x2 x3 ∧ A2 a0 a1 x0 x1 x2 x3 ∧ A3 a0 a1 x0 x1 x2 x3 ∧ A4 a0 a1 x0 x1 x2 x3 ∧ A5 a0 a1 x0 x1 x2 x3) (k : ∀ J : R0 → R1 → Prop, (∀ a0 a1, J a0 a1 = v a0 a1) → (∀ a0 a1, J a0 a1 → ∀ G : Prop, (∀ x0 x1 x2 x3, A0 a0 a1 x0 x1 x2 x3 → A1 a0 a1 x0 x1 x2 x3 → A2 a0 a1 x0 x1 x2 x3 → A3 a0 a1 x0 x1 x2 x3 → A4 a0 a1 x0 x1 x2 x3 → A5 a0 a1 x0 x1 x2 x3 → G) → G) → G) : G := k v (fun _ _ => rfl) (fun a0 a1 j _ k => ex4 ((h a0 a1).mp j) fun x0 x1 x2 x3 q => an5 q (k x0 x1 x2 x3))
theorem letX2_4_8io {R0 R1 T0 T1 T2 T3 : Sort _} {A0 A1 A2 A3 A4 A5 A6 A7 : R0 → R1 → T0 → T1 → T2 → T3 → Prop} {G : Prop} (v : R0 → R1 → Prop) (h : ∀ a0 a1, v a0 a1 ↔ ∃ x0, ∃ x1, ∃ x2, ∃ x3, A0 a0 a1 x0 x1 x2 x3 ∧ A1 a0 a1 x0 x1 x2 x3 ∧ A2 a0 a1 x0 x1 x2 x3 ∧ A3 a0 a1 x0 x1 x2 x3 ∧ A4 a0 a1 x0 x1 x2 x3 ∧ A5 a0 a1 x0 x1 x2 x3 ∧ A6 a0 a1 x0 x1 x2 x3 ∧ A7 a0 a1 x0 x1 x2 x3) (k : ∀ J : R0 → R1 → Prop, (∀ a0 a1 x0 x1 x2 x3, A0 a0 a1 x0 x1 x2 x3 → A1 a0 a1 x0 x1 x2 x3 → A2 a0 a1 x0 x1 x2 x3 → A3 a0 a1 x0 x1 x2 x3 → A4 a0 a1 x0 x1 x2 x3 → A5 a0 a1 x0 x1 x2 x3 → A6 a0 a1 x0 x1 x2 x3 → A7 a0 a1 x0 x1 x2 x3 → J a0 a1) → (∀ a0 a1, J a0 a1 → ∀ G : Prop, (∀ x0 x1 x2 x3, A0 a0 a1 x0 x1 x2 x3 → A1 a0 a1 x0 x1 x2 x3 → A2 a0 a1 x0 x1 x2 x3 → A3 a0 a1 x0 x1 x2 x3 → A4 a0 a1 x0 x1 x2 x3 → A5 a0 a1 x0 x1 x2 x3 → A6 a0 a1 x0 x1 x2 x3 → A7 a0 a1 x0 x1 x2 x3 → G) → G) → G) : G := k v (fun a0 a1 x0 x1 x2 x3 b0 b1 b2 b3 b4 b5 b6 b7 => (h a0 a1).mpr (xi4 x0 x1 x2 x3 (cj8 b0 b1 b2 b3 b4 b5 b6 b7))) (fun a0 a1 j _ k => ex4 ((h a0 a1).mp j) fun x0 x1 x2 x3 q => an7 q (k x0 x1 x2 x3))
theorem letX2_15_2io {R0 R1 T0 T1 T2 T3 T4 T5 T6 T7 T8 T9 T10 T11 T12 T13 T14 : Sort _} {A0 A1 : R0 → R1 → T0 → T1 → T2 → T3 → T4 → T5 → T6 → T7 → T8 → T9 → T10 → T11 → T12 → T13 → T14 → Prop} {G : Prop} (v : R0 → R1 → Prop) (h : ∀ a0 a1, v a0 a1 ↔ ∃ x0, ∃ x1, ∃ x2, ∃ x3, ∃ x4, ∃ x5, ∃ x6, ∃ x7, ∃ x8, ∃ x9, ∃ x10, ∃ x11, ∃ x12, ∃ x13, ∃ x14, A0 a0 a1 x0 x1 x2 x3 x4 x5 x6 x7 x8 x9 x10 x11 x12 x13 x14 ∧ A1 a0 a1 x0 x1 x2 x3 x4 x5 x6 x7 x8 x9 x10 x11 x12 x13 x14) (k : ∀ J : R0 → R1 → Prop, (∀ a0 a1 x0 x1 x2 x3 x4 x5 x6 x7 x8 x9 x10 x11 x12 x13 x14, A0 a0 a1 x0 x1 x2 x3 x4 x5 x6 x7 x8 x9 x10 x11 x12 x13 x14 → A1 a0 a1 x0 x1 x2 x3 x4 x5 x6 x7 x8 x9 x10 x11 x12 x13 x14 → J a0 a1) → (∀ a0 a1, J a0 a1 → ∀ G : Prop, (∀ x0 x1 x2 x3 x4 x5 x6 x7 x8 x9 x10 x11 x12 x13 x14, A0 a0 a1 x0 x1 x2 x3 x4 x5 x6 x7 x8 x9 x10 x11 x12 x13 x14 → A1 a0 a1 x0 x1 x2 x3 x4 x5 x6 x7 x8 x9 x10 x11 x12 x13 x14 → G) → G) → G) : G := k v (fun a0 a1 x0 x1 x2 x3 x4 x5 x6 x7 x8 x9 x10 x11 x12 x13 x14 b0 b1 => (h a0 a1).mpr (xi15 x0 x1 x2 x3 x4 x5 x6 x7 x8 x9 x10 x11 x12 x13 x14 (cj2 b0 b1))) (fun a0 a1 j _ k => ex15 ((h a0 a1).mp j) fun x0 x1 x2 x3 x4 x5 x6 x7 x8 x9 x10 x11 x12 x13 x14 q => an1 q (k x0 x1 x2 x3 x4 x5 x6 x7 x8 x9 x10 x11 x12 x13 x14))
theorem letX3_0_2eio {R0 R1 R2 : Sort _} {A0 A1 : R0 → R1 → R2 → Prop} {G : Prop} (v : R0 → R1 → R2 → Prop) (h : ∀ a0 a1 a2, v a0 a1 a2 ↔ A0 a0 a1 a2 ∧ A1 a0 a1 a2) (k : ∀ J : R0 → R1 → R2 → Prop, (∀ a0 a1 a2, J a0 a1 a2 = v a0 a1 a2) → (∀ a0 a1 a2, A0 a0 a1 a2 → A1 a0 a1 a2 → J a0 a1 a2) → (∀ a0 a1 a2, J a0 a1 a2 → ∀ G : Prop, (A0 a0 a1 a2 → A1 a0 a1 a2 → G) → G) → G) : G := k v (fun _ _ _ => rfl) (fun a0 a1 a2 b0 b1 => (h a0 a1 a2).mpr (cj2 b0 b1)) (fun a0 a1 a2 j _ k => an1 ((h a0 a1 a2).mp j) k)
theorem letX3_0_2io {R0 R1 R2 : Sort _} {A0 A1 : R0 → R1 → R2 → Prop} {G : Prop} (v : R0 → R1 → R2 → Prop) (h : ∀ a0 a1 a2, v a0 a1 a2 ↔ A0 a0 a1 a2 ∧ A1 a0 a1 a2) (k : ∀ J : R0 → R1 → R2 → Prop, (∀ a0 a1 a2, A0 a0 a1 a2 → A1 a0 a1 a2 → J a0 a1 a2) → (∀ a0 a1 a2, J a0 a1 a2 → ∀ G : Prop, (A0 a0 a1 a2 → A1 a0 a1 a2 → G) → G) → G) : G := k v (fun a0 a1 a2 b0 b1 => (h a0 a1 a2).mpr (cj2 b0 b1)) (fun a0 a1 a2 j _ k => an1 ((h a0 a1 a2).mp j) k)
theorem letX3_0_4eio {R0 R1 R2 : Sort _} {A0 A1 A2 A3 : R0 → R1 → R2 → Prop} {G : Prop} (v : R0 → R1 → R2 → Prop) (h : ∀ a0 a1 a2, v a0 a1 a2 ↔ A0 a0 a1 a2 ∧ A1 a0 a1 a2 ∧ A2 a0 a1 a2 ∧ A3 a0 a1 a2) (k : ∀ J : R0 → R1 → R2 → Prop, (∀ a0 a1 a2, J a0 a1 a2 = v a0 a1 a2) → (∀ a0 a1 a2, A0 a0 a1 a2 → A1 a0 a1 a2 → A2 a0 a1 a2 → A3 a0 a1 a2 → J a0 a1 a2) → (∀ a0 a1 a2, J a0 a1 a2 → ∀ G : Prop, (A0 a0 a1 a2 → A1 a0 a1 a2 → A2 a0 a1 a2 → A3 a0 a1 a2 → G) → G) → G) : G := k v (fun _ _ _ => rfl) (fun a0 a1 a2 b0 b1 b2 b3 => (h a0 a1 a2).mpr (cj4 b0 b1 b2 b3)) (fun a0 a1 a2 j _ k => an3 ((h a0 a1 a2).mp j) k)
theorem letX3_1_3eio {R0 R1 R2 T0 : Sort _} {A0 A1 A2 : R0 → R1 → R2 → T0 → Prop} {G : Prop} (v : R0 → R1 → R2 → Prop) (h : ∀ a0 a1 a2, v a0 a1 a2 ↔ ∃ x0, A0 a0 a1 a2 x0 ∧ A1 a0 a1 a2 x0 ∧ A2 a0 a1 a2 x0) (k : ∀ J : R0 → R1 → R2 → Prop, (∀ a0 a1 a2, J a0 a1 a2 = v a0 a1 a2) → (∀ a0 a1 a2 x0, A0 a0 a1 a2 x0 → A1 a0 a1 a2 x0 → A2 a0 a1 a2 x0 → J a0 a1 a2) → (∀ a0 a1 a2, J a0 a1 a2 → ∀ G : Prop, (∀ x0, A0 a0 a1 a2 x0 → A1 a0 a1 a2 x0 → A2 a0 a1 a2 x0 → G) → G) → G) : G := k v (fun _ _ _ => rfl) (fun a0 a1 a2 x0 b0 b1 b2 => (h a0 a1 a2).mpr (xi1 x0 (cj3 b0 b1 b2))) (fun a0 a1 a2 j _ k => ex1 ((h a0 a1 a2).mp j) fun x0 q => an2 q (k x0))
theorem letX3_1_6eio {R0 R1 R2 T0 : Sort _} {A0 A1 A2 A3 A4 A5 : R0 → R1 → R2 → T0 → Prop} {G : Prop} (v : R0 → R1 → R2 → Prop) (h : ∀ a0 a1 a2, v a0 a1 a2 ↔ ∃ x0, A0 a0 a1 a2 x0 ∧ A1 a0 a1 a2 x0 ∧ A2 a0 a1 a2 x0 ∧ A3 a0 a1 a2 x0 ∧ A4 a0 a1 a2 x0 ∧ A5 a0 a1 a2 x0) (k : ∀ J : R0 → R1 → R2 → Prop, (∀ a0 a1 a2, J a0 a1 a2 = v a0 a1 a2) → (∀ a0 a1 a2 x0, A0 a0 a1 a2 x0 → A1 a0 a1 a2 x0 → A2 a0 a1 a2 x0 → A3 a0 a1 a2 x0 → A4 a0 a1 a2 x0 → A5 a0 a1 a2 x0 → J a0 a1 a2) → (∀ a0 a1 a2, J a0 a1 a2 → ∀ G : Prop, (∀ x0, A0 a0 a1 a2 x0 → A1 a0 a1 a2 x0 → A2 a0 a1 a2 x0 → A3 a0 a1 a2 x0 → A4 a0 a1 a2 x0 → A5 a0 a1 a2 x0 → G) → G) → G) : G := k v (fun _ _ _ => rfl) (fun a0 a1 a2 x0 b0 b1 b2 b3 b4 b5 => (h a0 a1 a2).mpr (xi1 x0 (cj6 b0 b1 b2 b3 b4 b5))) (fun a0 a1 a2 j _ k => ex1 ((h a0 a1 a2).mp j) fun x0 q => an5 q (k x0))
theorem letX3_2_4io {R0 R1 R2 T0 T1 : Sort _} {A0 A1 A2 A3 : R0 → R1 → R2 → T0 → T1 → Prop} {G : Prop} (v : R0 → R1 → R2 → Prop) (h : ∀ a0 a1 a2, v a0 a1 a2 ↔ ∃ x0, ∃ x1, A0 a0 a1 a2 x0 x1 ∧ A1 a0 a1 a2 x0 x1 ∧ A2 a0 a1 a2 x0 x1 ∧ A3 a0 a1 a2 x0 x1) (k : ∀ J : R0 → R1 → R2 → Prop, (∀ a0 a1 a2 x0 x1, A0 a0 a1 a2 x0 x1 → A1 a0 a1 a2 x0 x1 → A2 a0 a1 a2 x0 x1 → A3 a0 a1 a2 x0 x1 → J a0 a1 a2) → (∀ a0 a1 a2, J a0 a1 a2 → ∀ G : Prop, (∀ x0 x1, A0 a0 a1 a2 x0 x1 → A1 a0 a1 a2 x0 x1 → A2 a0 a1 a2 x0 x1 → A3 a0 a1 a2 x0 x1 → G) → G) → G) : G := k v (fun a0 a1 a2 x0 x1 b0 b1 b2 b3 => (h a0 a1 a2).mpr (xi2 x0 x1 (cj4 b0 b1 b2 b3))) (fun a0 a1 a2 j _ k => ex2 ((h a0 a1 a2).mp j) fun x0 x1 q => an3 q (k x0 x1))
theorem letX3_2_5eio {R0 R1 R2 T0 T1 : Sort _} {A0 A1 A2 A3 A4 : R0 → R1 → R2 → T0 → T1 → Prop} {G : Prop} (v : R0 → R1 → R2 → Prop) (h : ∀ a0 a1 a2, v a0 a1 a2 ↔ ∃ x0, ∃ x1, A0 a0 a1 a2 x0 x1 ∧ A1 a0 a1 a2 x0 x1 ∧ A2 a0 a1 a2 x0 x1 ∧ A3 a0 a1 a2 x0 x1 ∧ A4 a0 a1 a2 x0 x1) (k : ∀ J : R0 → R1 → R2 → Prop, (∀ a0 a1 a2, J a0 a1 a2 = v a0 a1 a2) → (∀ a0 a1 a2 x0 x1, A0 a0 a1 a2 x0 x1 → A1 a0 a1 a2 x0 x1 → A2 a0 a1 a2 x0 x1 → A3 a0 a1 a2 x0 x1 → A4 a0 a1 a2 x0 x1 → J a0 a1 a2) → (∀ a0 a1 a2, J a0 a1 a2 → ∀ G : Prop, (∀ x0 x1, A0 a0 a1 a2 x0 x1 → A1 a0 a1 a2 x0 x1 → A2 a0 a1 a2 x0 x1 → A3 a0 a1 a2 x0 x1 → A4 a0 a1 a2 x0 x1 → G) → G) → G) : G := k v (fun _ _ _ => rfl) (fun a0 a1 a2 x0 x1 b0 b1 b2 b3 b4 => (h a0 a1 a2).mpr (xi2 x0 x1 (cj5 b0 b1 b2 b3 b4))) (fun a0 a1 a2 j _ k => ex2 ((h a0 a1 a2).mp j) fun x0 x1 q => an4 q (k x0 x1))
theorem letX3_3_5eo {R0 R1 R2 T0 T1 T2 : Sort _} {A0 A1 A2 A3 A4 : R0 → R1 → R2 → T0 → T1 → T2 → Prop} {G : Prop} (v : R0 → R1 → R2 → Prop) (h : ∀ a0 a1 a2, v a0 a1 a2 ↔ ∃ x0, ∃ x1, ∃ x2, A0 a0 a1 a2 x0 x1 x2 ∧ A1 a0 a1 a2 x0 x1 x2 ∧ A2 a0 a1 a2 x0 x1 x2 ∧ A3 a0 a1 a2 x0 x1 x2 ∧ A4 a0 a1 a2 x0 x1 x2) (k : ∀ J : R0 → R1 → R2 → Prop, (∀ a0 a1 a2, J a0 a1 a2 = v a0 a1 a2) → (∀ a0 a1 a2, J a0 a1 a2 → ∀ G : Prop, (∀ x0 x1 x2, A0 a0 a1 a2 x0 x1 x2 → A1 a0 a1 a2 x0 x1 x2 → A2 a0 a1 a2 x0 x1 x2 → A3 a0 a1 a2 x0 x1 x2 → A4 a0 a1 a2 x0 x1 x2 → G) → G) → G) : G := k v (fun _ _ _ => rfl) (fun a0 a1 a2 j _ k => ex3 ((h a0 a1 a2).mp j) fun x0 x1 x2 q => an4 q (k x0 x1 x2))
theorem letX3_4_5eo {R0 R1 R2 T0 T1 T2 T3 : Sort _} {A0 A1 A2 A3 A4 : R0 → R1 → R2 → T0 → T1 → T2 → T3 → Prop} {G : Prop} (v : R0 → R1 → R2 → Prop) (h : ∀ a0 a1 a2, v a0 a1 a2 ↔ ∃ x0, ∃ x1, ∃ x2, ∃ x3, A0 a0 a1 a2 x0 x1 x2 x3 ∧ A1 a0 a1 a2 x0 x1 x2 x3 ∧ A2 a0 a1 a2 x0 x1 x2 x3 ∧ A3 a0 a1 a2 x0 x1 x2 x3 ∧ A4 a0 a1 a2 x0 x1 x2 x3) (k : ∀ J : R0 → R1 → R2 → Prop, (∀ a0 a1 a2, J a0 a1 a2 = v a0 a1 a2) → (∀ a0 a1 a2, J a0 a1 a2 → ∀ G : Prop, (∀ x0 x1 x2 x3, A0 a0 a1 a2 x0 x1 x2 x3 → A1 a0 a1 a2 x0 x1 x2 x3 → A2 a0 a1 a2 x0 x1 x2 x3 → A3 a0 a1 a2 x0 x1 x2 x3 → A4 a0 a1 a2 x0 x1 x2 x3 → G) → G) → G) : G := k v (fun _ _ _ => rfl) (fun a0 a1 a2 j _ k => ex4 ((h a0 a1 a2).mp j) fun x0 x1 x2 x3 q => an4 q (k x0 x1 x2 x3))
theorem letX3_4_6eio {R0 R1 R2 T0 T1 T2 T3 : Sort _} {A0 A1 A2 A3 A4 A5 : R0 → R1 → R2 → T0 → T1 → T2 → T3 → Prop} {G : Prop} (v : R0 → R1 → R2 → Prop) (h : ∀ a0 a1 a2, v a0 a1 a2 ↔ ∃ x0, ∃ x1, ∃ x2, ∃ x3, A0 a0 a1 a2 x0 x1 x2 x3 ∧ A1 a0 a1 a2 x0 x1 x2 x3 ∧ A2 a0 a1 a2 x0 x1 x2 x3 ∧ A3 a0 a1 a2 x0 x1 x2 x3 ∧ A4 a0 a1 a2 x0 x1 x2 x3 ∧ A5 a0 a1 a2 x0 x1 x2 x3) (k : ∀ J : R0 → R1 → R2 → Prop, (∀ a0 a1 a2, J a0 a1 a2 = v a0 a1 a2) → (∀ a0 a1 a2 x0 x1 x2 x3, A0 a0 a1 a2 x0 x1 x2 x3 → A1 a0 a1 a2 x0 x1 x2 x3 → A2 a0 a1 a2 x0 x1 x2 x3 → A3 a0 a1 a2 x0 x1 x2 x3 → A4 a0 a1 a2 x0 x1 x2 x3 → A5 a0 a1 a2 x0 x1 x2 x3 → J a0 a1 a2) → (∀ a0 a1 a2, J a0 a1 a2 → ∀ G : Prop, (∀ x0 x1 x2 x3, A0 a0 a1 a2 x0 x1 x2 x3 → A1 a0 a1 a2 x0 x1 x2 x3 → A2 a0 a1 a2 x0 x1 x2 x3 → A3 a0 a1 a2 x0 x1 x2 x3 → A4 a0 a1 a2 x0 x1 x2 x3 → A5 a0 a1 a2 x0 x1 x2 x3 → G) → G) → G) : G := k v (fun _ _ _ => rfl) (fun a0 a1 a2 x0 x1 x2 x3 b0 b1 b2 b3 b4 b5 => (h a0 a1 a2).mpr (xi4 x0 x1 x2 x3 (cj6 b0 b1 b2 b3 b4 b5))) (fun a0 a1 a2 j _ k => ex4 ((h a0 a1 a2).mp j) fun x0 x1 x2 x3 q => an5 q (k x0 x1 x2 x3))
theorem letX3_4_7io {R0 R1 R2 T0 T1 T2 T3 : Sort _} {A0 A1 A2 A3 A4 A5 A6 : R0 → R1 → R2 → T0 → T1 → T2 → T3 → Prop} {G : Prop} (v : R0 → R1 → R2 → Prop) (h : ∀ a0 a1 a2, v a0 a1 a2 ↔ ∃ x0, ∃ x1, ∃ x2, ∃ x3, A0 a0 a1 a2 x0 x1 x2 x3 ∧ A1 a0 a1 a2 x0 x1 x2 x3 ∧ A2 a0 a1 a2 x0 x1 x2 x3 ∧ A3 a0 a1 a2 x0 x1 x2 x3 ∧ A4 a0 a1 a2 x0 x1 x2 x3 ∧ A5 a0 a1 a2 x0 x1 x2 x3 ∧ A6 a0 a1 a2 x0 x1 x2 x3) (k : ∀ J : R0 → R1 → R2 → Prop, (∀ a0 a1 a2 x0 x1 x2 x3, A0 a0 a1 a2 x0 x1 x2 x3 → A1 a0 a1 a2 x0 x1 x2 x3 → A2 a0 a1 a2 x0 x1 x2 x3 → A3 a0 a1 a2 x0 x1 x2 x3 → A4 a0 a1 a2 x0 x1 x2 x3 → A5 a0 a1 a2 x0 x1 x2 x3 → A6 a0 a1 a2 x0 x1 x2 x3 → J a0 a1 a2) → (∀ a0 a1 a2, J a0 a1 a2 → ∀ G : Prop, (∀ x0 x1 x2 x3, A0 a0 a1 a2 x0 x1 x2 x3 → A1 a0 a1 a2 x0 x1 x2 x3 → A2 a0 a1 a2 x0 x1 x2 x3 → A3 a0 a1 a2 x0 x1 x2 x3 → A4 a0 a1 a2 x0 x1 x2 x3 → A5 a0 a1 a2 x0 x1 x2 x3 → A6 a0 a1 a2 x0 x1 x2 x3 → G) → G) → G) : G := k v (fun a0 a1 a2 x0 x1 x2 x3 b0 b1 b2 b3 b4 b5 b6 => (h a0 a1 a2).mpr (xi4 x0 x1 x2 x3 (cj7 b0 b1 b2 b3 b4 b5 b6))) (fun a0 a1 a2 j _ k => ex4 ((h a0 a1 a2).mp j) fun x0 x1 x2 x3 q => an6 q (k x0 x1 x2 x3))
theorem letX3_5_9eo {R0 R1 R2 T0 T1 T2 T3 T4 : Sort _} {A0 A1 A2 A3 A4 A5 A6 A7 A8 : R0 → R1 → R2 → T0 → T1 → T2 → T3 → T4 → Prop} {G : Prop} (v : R0 → R1 → R2 → Prop) (h : ∀ a0 a1 a2, v a0 a1 a2 ↔ ∃ x0, ∃ x1, ∃ x2, ∃ x3, ∃ x4, A0 a0 a1 a2 x0 x1 x2 x3 x4 ∧ A1 a0 a1 a2 x0 x1 x2 x3 x4 ∧ A2 a0 a1 a2 x0 x1 x2 x3 x4 ∧ A3 a0 a1 a2 x0 x1 x2 x3 x4 ∧ A4 a0 a1 a2 x0 x1 x2 x3 x4 ∧ A5 a0 a1 a2 x0 x1 x2 x3 x4 ∧ A6 a0 a1 a2 x0 x1 x2 x3 x4 ∧ A7 a0 a1 a2 x0 x1 x2 x3 x4 ∧ A8 a0 a1 a2 x0 x1 x2 x3 x4) (k : ∀ J : R0 → R1 → R2 → Prop, (∀ a0 a1 a2, J a0 a1 a2 = v a0 a1 a2) → (∀ a0 a1 a2, J a0 a1 a2 → ∀ G : Prop, (∀ x0 x1 x2 x3 x4, A0 a0 a1 a2 x0 x1 x2 x3 x4 → A1 a0 a1 a2 x0 x1 x2 x3 x4 → A2 a0 a1 a2 x0 x1 x2 x3 x4 → A3 a0 a1 a2 x0 x1 x2 x3 x4 → A4 a0 a1 a2 x0 x1 x2 x3 x4 → A5 a0 a1 a2 x0 x1 x2 x3 x4 → A6 a0 a1 a2 x0 x1 x2 x3 x4 → A7 a0 a1 a2 x0 x1 x2 x3 x4 → A8 a0 a1 a2 x0 x1 x2 x3 x4 → G) → G) → G) : G := k v (fun _ _ _ => rfl) (fun a0 a1 a2 j _ k => ex5 ((h a0 a1 a2).mp j) fun x0 x1 x2 x3 x4 q => an8 q (k x0 x1 x2 x3 x4))
theorem letX3_7_9io {R0 R1 R2 T0 T1 T2 T3 T4 T5 T6 : Sort _} {A0 A1 A2 A3 A4 A5 A6 A7 A8 : R0 → R1 → R2 → T0 → T1 → T2 → T3 → T4 → T5 → T6 → Prop} {G : Prop} (v : R0 → R1 → R2 → Prop) (h : ∀ a0 a1 a2, v a0 a1 a2 ↔ ∃ x0, ∃ x1, ∃ x2, ∃ x3, ∃ x4, ∃ x5, ∃ x6, A0 a0 a1 a2 x0 x1 x2 x3 x4 x5 x6 ∧ A1 a0 a1 a2 x0 x1 x2 x3 x4 x5 x6 ∧ A2 a0 a1 a2 x0 x1 x2 x3 x4 x5 x6 ∧ A3 a0 a1 a2 x0 x1 x2 x3 x4 x5 x6 ∧ A4 a0 a1 a2 x0 x1 x2 x3 x4 x5 x6 ∧ A5 a0 a1 a2 x0 x1 x2 x3 x4 x5 x6 ∧ A6 a0 a1 a2 x0 x1 x2 x3 x4 x5 x6 ∧ A7 a0 a1 a2 x0 x1 x2 x3 x4 x5 x6 ∧ A8 a0 a1 a2 x0 x1 x2 x3 x4 x5 x6) (k : ∀ J : R0 → R1 → R2 → Prop, (∀ a0 a1 a2 x0 x1 x2 x3 x4 x5 x6, A0 a0 a1 a2 x0 x1 x2 x3 x4 x5 x6 → A1 a0 a1 a2 x0 x1 x2 x3 x4 x5 x6 → A2 a0 a1 a2 x0 x1 x2 x3 x4 x5 x6 → A3 a0 a1 a2 x0 x1 x2 x3 x4 x5 x6 → A4 a0 a1 a2 x0 x1 x2 x3 x4 x5 x6 → A5 a0 a1 a2 x0 x1 x2 x3 x4 x5 x6 → A6 a0 a1 a2 x0 x1 x2 x3 x4 x5 x6 → A7 a0 a1 a2 x0 x1 x2 x3 x4 x5 x6 → A8 a0 a1 a2 x0 x1 x2 x3 x4 x5 x6 → J a0 a1 a2) → (∀ a0 a1 a2, J a0 a1 a2 → ∀ G : Prop, (∀ x0 x1 x2 x3 x4 x5 x6, A0 a0 a1 a2 x0 x1 x2 x3 x4 x5 x6 → A1 a0 a1 a2 x0 x1 x2 x3 x4 x5 x6 → A2 a0 a1 a2 x0 x1 x2 x3 x4 x5 x6 → A3 a0 a1 a2 x0 x1 x2 x3 x4 x5 x6 → A4 a0 a1 a2 x0 x1 x2 x3 x4 x5 x6 → A5 a0 a1 a2 x0 x1 x2 x3 x4 x5 x6 → A6 a0 a1 a2 x0 x1 x2 x3 x4 x5 x6 → A7 a0 a1 a2 x0 x1 x2 x3 x4 x5 x6 → A8 a0 a1 a2 x0 x1 x2 x3 x4 x5 x6 → G) → G) → G) : G := k v (fun a0 a1 a2 x0 x1 x2 x3 x4 x5 x6 b0 b1 b2 b3 b4 b5 b6 b7 b8 => (h a0 a1 a2).mpr (xi7 x0 x1 x2 x3 x4 x5 x6 (cj9 b0 b1 b2 b3 b4 b5 b6 b7 b8))) (fun a0 a1 a2 j _ k => ex7 ((h a0 a1 a2).mp j) fun x0 x1 x2 x3 x4 x5 x6 q => an8 q (k x0 x1 x2 x3 x4 x5 x6))
theorem letX3_7_14eio {R0 R1 R2 T0 T1 T2 T3 T4 T5 T6 : Sort _} {A0 A1 A2 A3 A4 A5 A6 A7 A8 A9 A10 A11 A12 A13 : R0 → R1 → R2 → T0 → T1 → T2 → T3 → T4 → T5 → T6 → Prop} {G : Prop} (v : R0 → R1 → R2 → Prop) (h : ∀ a0 a1 a2, v a0 a1 a2 ↔ ∃ x0, ∃ x1, ∃ x2, ∃ x3, ∃ x4, ∃ x5, ∃ x6, A0 a0 a1 a2 x0 x1 x2 x3 x4 x5 x6 ∧ A1 a0 a1 a2 x0 x1 x2 x3 x4 x5 x6 ∧ A2 a0 a1 a2 x0 x1 x2 x3 x4 x5 x6 ∧ A3 a0 a1 a2 x0 x1 x2 x3 x4 x5 x6 ∧ A4 a0 a1 a2 x0 x1 x2 x3 x4 x5 x6 ∧ A5 a0 a1 a2 x0 x1 x2 x3 x4 x5 x6 ∧ A6 a0 a1 a2 x0 x1 x2 x3 x4 x5 x6 ∧ A7 a0 a1 a2 x0 x1 x2 x3 x4 x5 x6 ∧ A8 a0 a1 a2 x0 x1 x2 x3 x4 x5 x6 ∧ A9 a0 a1 a2 x0 x1 x2 x3 x4 x5 x6 ∧ A10 a0 a1 a2 x0 x1 x2 x3 x4 x5 x6 ∧ A11 a0 a1 a2 x0 x1 x2 x3 x4 x5 x6 ∧ A12 a0 a1 a2 x0 x1 x2 x3 x4 x5 x6 ∧ A13 a0 a1 a2 x0 x1 x2 x3 x4 x5 x6) (k : ∀ J : R0 → R1 → R2 → Prop, (∀ a0 a1 a2, J a0 a1 a2 = v a0 a1 a2) → (∀ a0 a1 a2 x0 x1 x2 x3 x4 x5 x6, A0 a0 a1 a2 x0 x1 x2 x3 x4 x5 x6 → A1 a0 a1 a2 x0 x1 x2 x3 x4 x5 x6 → A2 a0 a1 a2 x0 x1 x2 x3 x4 x5 x6 → A3 a0 a1 a2 x0 x1 x2 x3 x4 x5 x6 → A4 a0 a1 a2 x0 x1 x2 x3 x4 x5 x6 → A5 a0 a1 a2 x0 x1 x2 x3 x4 x5 x6 → A6 a0 a1 a2 x0 x1 x2 x3 x4 x5 x6 → A7 a0 a1 a2 x0 x1 x2 x3 x4 x5 x6 → A8 a0 a1 a2 x0 x1 x2 x3 x4 x5 x6 → A9 a0 a1 a2 x0 x1 x2 x3 x4 x5 x6 → A10 a0 a1 a2 x0 x1 x2 x3 x4 x5 x6 → A11 a0 a1 a2 x0 x1 x2 x3 x4 x5 x6 → A12 a0 a1 a2 x0 x1 x2 x3 x4 x5 x6 → A13 a0 a1 a2 x0 x1 x2 x3 x4 x5 x6 → J a0 a1 a2) → (∀ a0 a1 a2, J a0 a1 a2 → ∀ G : Prop, (∀ x0 x1 x2 x3 x4 x5 x6, A0 a0 a1 a2 x0 x1 x2 x3 x4 x5 x6 → A1 a0 a1 a2 x0 x1 x2 x3 x4 x5 x6 → A2 a0 a1 a2 x0 x1 x2 x3 x4 x5 x6 → A3 a0 a1 a2 x0 x1 x2 x3 x4 x5 x6 → A4 a0 a1 a2 x0 x1 x2 x3 x4 x5 x6 → A5 a0 a1 a2 x0 x1 x2 x3 x4 x5 x6 → A6 a0 a1 a2 x0 x1 x2 x3 x4 x5 x6 → A7 a0 a1 a2 x0 x1 x2 x3 x4 x5 x6 → A8 a0 a1 a2 x0 x1 x2 x3 x4 x5 x6 → A9 a0 a1 a2 x0 x1 x2 x3 x4 x5 x6 → A10 a0 a1 a2 x0 x1 x2 x3 x4 x5 x6 → A11 a0 a1 a2 x0 x1 x2 x3 x4 x5 x6 → A12 a0 a1 a2 x0 x1 x2 x3 x4 x5 x6 → A13 a0 a1 a2 x0 x1 x2 x3 x4 x5 x6 → G) → G) → G) : G := k v (fun _ _ _ => rfl) (fun a0 a1 a2 x0 x1 x2 x3 x4 x5 x6 b0 b1 b2 b3 b4 b5 b6 b7 b8 b9 b10 b11 b12 b13 => (h a0 a1 a2).mpr (xi7 x0 x1 x2 x3 x4 x5 x6 (cj14 b0 b1 b2 b3 b4 b5 b6 b7 b8 b9 b10 b11 b12 b13))) (fun a0 a1 a2 j _ k => ex7 ((h a0 a1 a2).mp j) fun x0 x1 x2 x3 x4 x5 x6 q => an13 q (k x0 x1 x2 x3 x4 x5 x6))
theorem letX3_11_1eio {R0 R1 R2 T0 T1 T2 T3 T4 T5 T6 T7 T8 T9 T10 : Sort _} {A0 : R0 → R1 → R2 → T0 → T1 → T2 → T3 → T4 → T5 → T6 → T7 → T8 → T9 → T10 → Prop} {G : Prop} (v : R0 → R1 → R2 → Prop) (h : ∀ a0 a1 a2, v a0 a1 a2 ↔ ∃ x0, ∃ x1, ∃ x2, ∃ x3, ∃ x4, ∃ x5, ∃ x6, ∃ x7, ∃ x8, ∃ x9, ∃ x10, A0 a0 a1 a2 x0 x1 x2 x3 x4 x5 x6 x7 x8 x9 x10) (k : ∀ J : R0 → R1 → R2 → Prop, (∀ a0 a1 a2, J a0 a1 a2 = v a0 a1 a2) → (∀ a0 a1 a2 x0 x1 x2 x3 x4 x5 x6 x7 x8 x9 x10, A0 a0 a1 a2 x0 x1 x2 x3 x4 x5 x6 x7 x8 x9 x10 → J a0 a1 a2) → (∀ a0 a1 a2, J a0 a1 a2 → ∀ G : Prop, (∀ x0 x1 x2 x3 x4 x5 x6 x7 x8 x9 x10, A0 a0 a1 a2 x0 x1 x2 x3 x4 x5 x6 x7 x8 x9 x10 → G) → G) → G) : G := k v (fun _ _ _ => rfl) (fun a0 a1 a2 x0 x1 x2 x3 x4 x5 x6 x7 x8 x9 x10 b0 => (h a0 a1 a2).mpr (xi11 x0 x1 x2 x3 x4 x5 x6 x7 x8 x9 x10 b0)) (fun a0 a1 a2 j _ k => ex11 ((h a0 a1 a2).mp j) k)
theorem letX3_12_12io {R0 R1 R2 T0 T1 T2 T3 T4 T5 T6 T7 T8 T9 T10 T11 : Sort _} {A0 A1 A2 A3 A4 A5 A6 A7 A8 A9 A10 A11 : R0 → R1 → R2 → T0 → T1 → T2 → T3 → T4 → T5 → T6 → T7 → T8 → T9 → T10 → T11 → Prop} {G : Prop} (v : R0 → R1 → R2 → Prop) (h : ∀ a0 a1 a2, v a0 a1 a2 ↔ ∃ x0, ∃ x1, ∃ x2, ∃ x3, ∃ x4, ∃ x5, ∃ x6, ∃ x7, ∃ x8, ∃ x9, ∃ x10, ∃ x11, A0 a0 a1 a2 x0 x1 x2 x3 x4 x5 x6 x7 x8 x9 x10 x11 ∧ A1 a0 a1 a2 x0 x1 x2 x3 x4 x5 x6 x7 x8 x9 x10 x11 ∧ A2 a0 a1 a2 x0 x1 x2 x3 x4 x5 x6 x7 x8 x9 x10 x11 ∧ A3 a0 a1 a2 x0 x1 x2 x3 x4 x5 x6 x7 x8 x9 x10 x11 ∧ A4 a0 a1 a2 x0 x1 x2 x3 x4 x5 x6 x7 x8 x9 x10 x11 ∧ A5 a0 a1 a2 x0 x1 x2 x3 x4 x5 x6 x7 x8 x9 x10 x11 ∧ A6 a0 a1 a2 x0 x1 x2 x3 x4 x5 x6 x7 x8 x9 x10 x11 ∧ A7 a0 a1 a2 x0 x1 x2 x3 x4 x5 x6 x7 x8 x9 x10 x11 ∧ A8 a0 a1 a2 x0 x1 x2 x3 x4 x5 x6 x7 x8 x9 x10 x11 ∧ A9 a0 a1 a2 x0 x1 x2 x3 x4 x5 x6 x7 x8 x9 x10 x11 ∧ A10 a0 a1 a2 x0 x1 x2 x3 x4 x5 x6 x7 x8 x9 x10 x11 ∧ A11 a0 a1 a2 x0 x1 x2 x3 x4 x5 x6 x7 x8 x9 x10 x11) (k : ∀ J : R0 → R1 → R2 → Prop, (∀ a0 a1 a2 x0 x1 x2 x3 x4 x5 x6 x7 x8 x9 x10 x11, A0 a0 a1 a2 x0 x1 x2 x3 x4 x5 x6 x7 x8 x9 x10 x11 → A1 a0 a1 a2 x0 x1 x2 x3 x4 x5 x6 x7 x8 x9 x10 x11 → A2 a0 a1 a2 x0 x1 x2 x3 x4 x5 x6 x7 x8 x9 x10 x11 → A3 a0 a1 a2 x0 x1 x2 x3 x4 x5 x6 x7 x8 x9 x10 x11 → A4 a0 a1 a2 x0 x1 x2 x3 x4 x5 x6 x7 x8 x9 x10 x11 → A5 a0 a1 a2 x0 x1 x2 x3 x4 x5 x6 x7 x8 x9 x10 x11 → A6 a0 a1 a2 x0 x1 x2 x3 x4 x5 x6 x7 x8 x9 x10 x11 → A7 a0 a1 a2 x0 x1 x2 x3 x4 x5 x6 x7 x8 x9 x10 x11 → A8 a0 a1 a2 x0 x1 x2 x3 x4 x5 x6 x7 x8 x9 x10 x11 → A9 a0 a1 a2 x0 x1 x2 x3 x4 x5 x6 x7 x8 x9 x10 x11 → A10 a0 a1 a2 x0 x1 x2 x3 x4 x5 x6 x7 x8 x9 x10 x11 → A11 a0 a1 a2 x0 x1 x2 x3 x4 x5 x6 x7 x8 x9 x10 x11 → J a0 a1 a2) → (∀ a0 a1 a2, J a0 a1 a2 → ∀ G : Prop, (∀ x0 x1 x2 x3 x4 x5 x6 x7 x8 x9 x10 x11, A0 a0 a1 a2 x0 x1 x2 x3 x4 x5 x6 x7 x8 x9 x10 x11 → A1 a0 a1 a2 x0 x1 x2 x3 x4 x5 x6 x7 x8 x9 x10 x11 → A2 a0 a1 a2 x0 x1 x2 x3 x4 x5 x6 x7 x8 x9 x10 x11 → A3 a0 a1 a2 x0 x1 x2 x3 x4 x5 x6 x7 x8 x9 x10 x11 → A4 a0 a1 a2 x0 x1 x2 x3 x4 x5 x6 x7 x8 x9 x10 x11 → A5 a0 a1 a2 x0 x1 x2 x3 x4 x5 x6 x7 x8 x9 x10 x11 → A6 a0 a1 a2 x0 x1 x2 x3 x4 x5 x6 x7 x8 x9 x10 x11 → A7 a0 a1 a2 x0 x1 x2 x3 x4 x5 x6 x7 x8 x9 x10 x11 → A8 a0 a1 a2 x0 x1 x2 x3 x4 x5 x6 x7 x8 x9 x10 x11 → A9 a0 a1 a2 x0 x1 x2 x3 x4 x5 x6 x7 x8 x9 x10 x11 → A10 a0 a1 a2 x0 x1 x2 x3 x4 x5 x6 x7 x8 x9 x10 x11 → A11 a0 a1 a2 x0 x1 x2 x3 x4 x5 x6 x7 x8 x9 x10 x11 → G) → G) → G) : G := k v (fun a0 a1 a2 x0 x1 x2 x3 x4 x5 x6 x7 x8 x9 x10 x11 b0 b1 b2 b3 b4 b5 b6 b7 b8 b9 b10 b11 => (h a0 a1 a2).mpr (xi12 x0 x1 x2 x3 x4 x5 x6 x7 x8 x9 x10 x11 (cj12 b0 b1 b2 b3 b4 b5 b6 b7 b8 b9 b10 b11))) (fun a0 a1 a2 j _ k => ex12 ((h a0 a1 a2).mp j) fun x0 x1 x2 x3 x4 x5 x6 x7 x8 x9 x10 x11 q => an11 q (k x0 x1 x2 x3 x4 x5 x6 x7 x8 x9 x10 x11))
theorem letX3_13_2io {R0 R1 R2 T0 T1 T2 T3 T4 T5 T6 T7 T8 T9 T10 T11 T12 : Sort _} {A0 A1 : R0 → R1 → R2 → T0 → T1 → T2 → T3 → T4 → T5 → T6 → T7 → T8 → T9 → T10 → T11 → T12 → Prop} {G : Prop} (v : R0 → R1 → R2 → Prop) (h : ∀ a0 a1 a2, v a0 a1 a2 ↔ ∃ x0, ∃ x1, ∃ x2, ∃ x3, ∃ x4, ∃ x5, ∃ x6, ∃ x7, ∃ x8, ∃ x9, ∃ x10, ∃ x11, ∃ x12, A0 a0 a1 a2 x0 x1 x2 x3 x4 x5 x6 x7 x8 x9 x10 x11 x12 ∧ A1 a0 a1 a2 x0 x1 x2 x3 x4 x5 x6 x7 x8 x9 x10 x11 x12) (k : ∀ J : R0 → R1 → R2 → Prop, (∀ a0 a1 a2 x0 x1 x2 x3 x4 x5 x6 x7 x8 x9 x10 x11 x12, A0 a0 a1 a2 x0 x1 x2 x3 x4 x5 x6 x7 x8 x9 x10 x11 x12 → A1 a0 a1 a2 x0 x1 x2 x3 x4 x5 x6 x7 x8 x9 x10 x11 x12 → J a0 a1 a2) → (∀ a0 a1 a2, J a0 a1 a2 → ∀ G : Prop, (∀ x0 x1 x2 x3 x4 x5 x6 x7 x8 x9 x10 x11 x12, A0 a0 a1 a2 x0 x1 x2 x3 x4 x5 x6 x7 x8 x9 x10 x11 x12 → A1 a0 a1 a2 x0 x1 x2 x3 x4 x5 x6 x7 x8 x9 x10 x11 x12 → G) → G) → G) : G := k v (fun a0 a1 a2 x0 x1 x2 x3 x4 x5 x6 x7 x8 x9 x10 x11 x12 b0 b1 => (h a0 a1 a2).mpr (xi13 x0 x1 x2 x3 x4 x5 x6 x7 x8 x9 x10 x11 x12 (cj2 b0 b1))) (fun a0 a1 a2 j _ k => ex13 ((h a0 a1 a2).mp j) fun x0 x1 x2 x3 x4 x5 x6 x7 x8 x9 x10 x11 x12 q => an1 q (k x0 x1 x2 x3 x4 x5 x6 x7 x8 x9 x10 x11 x12))
theorem letX3_15_2io {R0 R1 R2 T0 T1 T2 T3 T4 T5 T6 T7 T8 T9 T10 T11 T12 T13 T14 : Sort _} {A0 A1 : R0 → R1 → R2 → T0 → T1 → T2 → T3 → T4 → T5 → T6 → T7 → T8 → T9 → T10 → T11 → T12 → T13 → T14 → Prop} {G : Prop} (v : R0 → R1 → R2 → Prop) (h : ∀ a0 a1 a2, v a0 a1 a2 ↔ ∃ x0, ∃ x1, ∃ x2, ∃ x3, ∃ x4, ∃ x5, ∃ x6, ∃ x7, ∃ x8, ∃ x9, ∃ x10, ∃ x11, ∃ x12, ∃ x13, ∃ x14, A0 a0 a1 a2 x0 x1 x2 x3 x4 x5 x6 x7 x8 x9 x10 x11 x12 x13 x14 ∧ A1 a0 a1 a2 x0 x1 x2 x3 x4 x5 x6 x7 x8 x9 x10 x11 x12 x13 x14) (k : ∀ J : R0 → R1 → R2 → Prop, (∀ a0 a1 a2 x0 x1 x2 x3 x4 x5 x6 x7 x8 x9 x10 x11 x12 x13 x14, A0 a0 a1 a2 x0 x1 x2 x3 x4 x5 x6 x7 x8 x9 x10 x11 x12 x13 x14 → A1 a0 a1 a2 x0 x1 x2 x3 x4 x5 x6 x7 x8 x9 x10 x11 x12 x13 x14 → J a0 a1 a2) → (∀ a0 a1 a2, J a0 a1 a2 → ∀ G : Prop, (∀ x0 x1 x2 x3 x4 x5 x6 x7 x8 x9 x10 x11 x12 x13 x14, A0 a0 a1 a2 x0 x1 x2 x3 x4 x5 x6 x7 x8 x9 x10 x11 x12 x13 x14 → A1 a0 a1 a2 x0 x1 x2 x3 x4 x5 x6 x7 x8 x9 x10 x11 x12 x13 x14 → G) → G) → G) : G := k v (fun a0 a1 a2 x0 x1 x2 x3 x4 x5 x6 x7 x8 x9 x10 x11 x12 x13 x14 b0 b1 => (h a0 a1 a2).mpr (xi15 x0 x1 x2 x3 x4 x5 x6 x7 x8 x9 x10 x11 x12 x13 x14 (cj2 b0 b1))) (fun a0 a1 a2 j _ k => ex15 ((h a0 a1 a2).mp j) fun x0 x1 x2 x3 x4 x5 x6 x7 x8 x9 x10 x11 x12 x13 x14 q => an1 q (k x0 x1 x2 x3 x4 x5 x6 x7 x8 x9 x10 x11 x12 x13 x14))
theorem letX4_2_2eo {R0 R1 R2 R3 T0 T1 : Sort _} {A0 A1 : R0 → R1 → R2 → R3 → T0 → T1 → Prop} {G : Prop} (v : R0 → R1 → R2 → R3 → Prop) (h : ∀ a0 a1 a2 a3, v a0 a1 a2 a3 ↔ ∃ x0, ∃ x1, A0 a0 a1 a2 a3 x0 x1 ∧ A1 a0 a1 a2 a3 x0 x1) (k : ∀ J : R0 → R1 → R2 → R3 → Prop, (∀ a0 a1 a2 a3, J a0 a1 a2 a3 = v a0 a1 a2 a3) → (∀ a0 a1 a2 a3, J a0 a1 a2 a3 → ∀ G : Prop, (∀ x0 x1, A0 a0 a1 a2 a3 x0 x1 → A1 a0 a1 a2 a3 x0 x1 → G) → G) → G) : G := k v (fun _ _ _ _ => rfl) (fun a0 a1 a2 a3 j _ k => ex2 ((h a0 a1 a2 a3).mp j) fun x0 x1 q => an1 q (k x0 x1))
theorem letX4_5_8io {R0 R1 R2 R3 T0 T1 T2 T3 T4 : Sort _} {A0 A1 A2 A3 A4 A5 A6 A7 : R0 → R1 → R2 → R3 → T0 → T1 → T2 → T3 → T4 → Prop} {G : Prop} (v : R0 → R1 → R2 → R3 → Prop) (h : ∀ a0 a1 a2 a3, v a0 a1 a2 a3 ↔ ∃ x0, ∃ x1, ∃ x2, ∃ x3, ∃ x4, A0 a0 a1 a2 a3 x0 x1 x2 x3 x4 ∧ A1 a0 a1 a2 a3 x0 x1 x2 x3 x4 ∧ A2 a0 a1 a2 a3 x0 x1 x2 x3 x4 ∧ A3 a0 a1 a2 a3 x0 x1 x2 x3 x4 ∧ A4 a0 a1 a2 a3 x0 x1 x2 x3 x4 ∧ A5 a0 a1 a2 a3 x0 x1 x2 x3 x4 ∧ A6 a0 a1 a2 a3 x0 x1 x2 x3 x4 ∧ A7 a0 a1 a2 a3 x0 x1 x2 x3 x4) (k : ∀ J : R0 → R1 → R2 → R3 → Prop, (∀ a0 a1 a2 a3 x0 x1 x2 x3 x4, A0 a0 a1 a2 a3 x0 x1 x2 x3 x4 → A1 a0 a1 a2 a3 x0 x1 x2 x3 x4 → A2 a0 a1 a2 a3 x0 x1 x2 x3 x4 → A3 a0 a1 a2 a3 x0 x1 x2 x3 x4 → A4 a0 a1 a2 a3 x0 x1 x2 x3 x4 → A5 a0 a1 a2 a3 x0 x1 x2 x3 x4 → A6 a0 a1 a2 a3 x0 x1 x2 x3 x4 → A7 a0 a1 a2 a3 x0 x1 x2 x3 x4 → J a0 a1 a2 a3) → (∀ a0 a1 a2 a3, J a0 a1 a2 a3 → ∀ G : Prop, (∀ x0 x1 x2 x3 x4, A0 a0 a1 a2 a3 x0 x1 x2 x3 x4 → A1 a0 a1 a2 a3 x0 x1 x2 x3 x4 → A2 a0 a1 a2 a3 x0 x1 x2 x3 x4 → A3 a0 a1 a2 a3 x0 x1 x2 x3 x4 → A4 a0 a1 a2 a3 x0 x1 x2 x3 x4 → A5 a0 a1 a2 a3 x0 x1 x2 x3 x4 → A6 a0 a1 a2 a3 x0 x1 x2 x3 x4 → A7 a0 a1 a2 a3 x0 x1 x2 x3 x4 → G) → G) → G) : G := k v (fun a0 a1 a2 a3 x0 x1 x2 x3 x4 b0 b1 b2 b3 b4 b5 b6 b7 => (h a0 a1 a2 a3).mpr (xi5 x0 x1 x2 x3 x4 (cj8 b0 b1 b2 b3 b4 b5 b6 b7))) (fun a0 a1 a2 a3 j _ k => ex5 ((h a0 a1 a2 a3).mp j) fun x0 x1 x2 x3 x4 q => an7 q (k x0 x1 x2 x3 x4))
end
section
open PySem PySem.W PyProof.Rows PySem.Calls
noncomputable abbrev NoE : Value → Shared → Prop := fun _ _ => False
noncomputable abbrev Ledger := List (Addr × Obj)
noncomputable abbrev FMap := Str → Option Value
noncomputable abbrev upd (m : FMap) (x : Str) (v : Value) : FMap := fun y => if y = x then some v else m y
theorem upd_upd {m : FMap} {x : Str} {v v' : Value} : upd (upd m x v') x v = upd m x v := by
 funext y; by_cases h : y = x <;> simp [upd, h]
section
variable {M : Model} {A : Around} {env : Env} {Q : Flow → Shared → Prop} {E : Value → Shared → Prop} {h : Heap} {g : Array GenState} {d : Drawn} {X : Nat} {o : OsState}
theorem execs_cons_gen {st : Stmt} {rest : List Stmt} (k : ∀ tk, wpAny M A (exec st env) (fun f s' => match f with | .next => wpAny M A (execs rest env) Q E s' | f => Q f s') E ⟨h, g, d, tk, o⟩) :
  wpAny M A (execs (st :: rest) env) Q E ⟨h, g, d, X, o⟩ := wpAny_execs_cons (k X)
theorem execs_nil_gen (k : ∀ tk, Q .next ⟨h, g, d, tk, o⟩) : wpAny M A (execs [] env) Q E ⟨h, g, d, X, o⟩ := wpAny_execs_nil (k X)
end
section
variable {M : Model} {A : Around} {env : Env} {Q : Flow → Shared → Prop} {E : Value → Shared → Prop} {s : Shared}
theorem WG {a : Expr} {b c : List Stmt} {d : Pos} (h : wpAny M A (exec (.While a b c d) env) Q E s) : wpAny M A (exec (.While a b c d) env) Q E s := h
theorem FG {a x : Expr} {b c : List Stmt} {d : Pos} (h : wpAny M A (exec (.For a x b c d) env) Q E s) : wpAny M A (exec (.For a x b c d) env) Q E s := h
end
section
variable {M : Model} {A : Around} {E : Value → Shared → Prop} {s : Shared} {h₀ : Heap} {L a : Addr} {m : Str → Option Value} {cn : Str} {cs : Scope} {ccd : Value} {cl : List (Str × Addr)} {x : Str} {pos : Pos} {v : Value} {Q : Value → Shared → Prop} {news : List (Addr × Obj)} {c : Addr} {o : Obj}
theorem nmL (hx : (envX cn cs L a ccd cl).kindOf x = some .local) (hk : cs.kind = .function) (F : Fr h₀ L s.heap m) (hv : m x = some v) (h : Q v s) (hd : (x == ("__debug__" : Str)) = false := by decide) : wpAny M A (eval (.Name x pos) (envX cn cs L a ccd cl)) Q E s := nameX_L F hv h hk hx hd
theorem nmC (hx : (envX cn cs L a ccd cl).kindOf x = some .cell) (hk : cs.kind = .function) (N : News h₀ L s.heap news) (hc : cl.lookup x = some c) (hm : (c, o) ∈ news) (hd : o.data = .cell (some v)) (h : Q v s) (hb : (x == ("__debug__" : Str)) = false := by decide) :
  wpAny M A (eval (.Name x pos) (envX cn cs L a ccd cl)) Q E s := nameX_C N hc hm hd h hk hx hb
end
structure Has (m : FMap) (x : Str) (v : Value) : Prop where
 out : m x = some v
theorem Has.get {m m' : FMap} {x : Str} {v : Value} (h : Has m x v) (e : m' x = m x) : m' x = some v := e.trans h.out
noncomputable def Cut (h₀ : Heap) (L : Addr) (s : Shared) (P : FMap → Ledger → Prop) (s₂ : Shared) : Prop :=
 ∃ h' tk m' news', s₂ = { s with heap := h', toks := tk } ∧ Fr h₀ L h' m' ∧ News h₀ L h' news' ∧ P m' news'
theorem Cut.mk {h₀ : Heap} {L : Addr} {s : Shared} {P : FMap → Ledger → Prop} {h' : Heap} {tk : Nat} {m' : FMap} {news' : Ledger} (F : Fr h₀ L h' m') (N : News h₀ L h' news') (hp : P m' news') :
  Cut h₀ L s P { s with heap := h', toks := tk } := ⟨h', tk, m', news', rfl, F, N, hp⟩
noncomputable def WPost (h₀ : Heap) (L : Addr) (s : Shared) (J : Nat → FMap → Ledger → Prop) (n : Nat) (Q : Flow → Shared → Prop) : Flow → Shared → Prop
 | .next, s' => ∃ n', n' < n ∧ Cut h₀ L s (J n') s'
 | .cont, s' => ∃ n', n' < n ∧ Cut h₀ L s (J n') s'
 | .brk, s' => Q .next s'
 | .ret v, s' => Q (.ret v) s'
theorem WPost.next {h₀ : Heap} {L : Addr} {s : Shared} {J : Nat → FMap → Ledger → Prop} {n n' : Nat} {Q : Flow → Shared → Prop} {h' : Heap} {tk : Nat} {m' : FMap} {news' : Ledger} (F : Fr h₀ L h' m') (N : News h₀ L h' news') (hn : n' < n) (hp : J n' m' news') :
  WPost h₀ L s J n Q .next { s with heap := h', toks := tk } := ⟨n', hn, .mk F N hp⟩
theorem WPost.cont {h₀ : Heap} {L : Addr} {s : Shared} {J : Nat → FMap → Ledger → Prop} {n n' : Nat} {Q : Flow → Shared → Prop} {h' : Heap} {tk : Nat} {m' : FMap} {news' : Ledger} (F : Fr h₀ L h' m') (N : News h₀ L h' news') (hn : n' < n) (hp : J n' m' news') :
  WPost h₀ L s J n Q .cont { s with heap := h', toks := tk } := ⟨n', hn, .mk F N hp⟩
section
variable {prog : Program} {w : World} {A : Around} {Q : Flow → Shared → Prop} {s : Shared} {env : Env} {h₀ : Heap} {L : Addr} {m : FMap} {news : Ledger}
theorem While_gen {test : Expr} {body orelse : List Stmt} {pos : Pos} (J : Nat → FMap → Ledger → Prop) {n₀ : Nat}
  (F : Fr h₀ L s.heap m) (N : News h₀ L s.heap news) (hJ : J n₀ m news)
  (turn : ∀ n m₁ news₁ h₁ tk₁, Fr h₀ L h₁ m₁ → News h₀ L h₁ news₁ → J n m₁ news₁ →
   wpAny (model prog w) A (isTrue test env (eval test env)) (fun b s₂ =>
    if b = true then wpAny (model prog w) A (execs body env) (WPost h₀ L s J n Q) NoE s₂ else wpAny (model prog w) A (execs orelse env) Q NoE s₂) NoE { s with heap := h₁, toks := tk₁ }) :
  wpAny (model prog w) A (exec (.While test body orelse pos) env) Q NoE s := by
 refine wpAny_While (codeAny_whileLoop (fun n s' => Cut h₀ L s (J n) s') ?_ n₀ ⟨s.heap, s.toks, m, news, rfl, F, N, hJ⟩)
 intro n s' hz9
 refine oEEEEAAA (hz9) fun h₁ tk₁ m₁ news₁ er1 F₁ N₁ J₁ => ?_
 try clear hz9
 subst er1
 refine wpAny_mono (turn n m₁ news₁ h₁ tk₁ F₁ N₁ J₁) (fun b s₂ h₂ => ?_) (fun _ _ h => h.elim)
 cases b with
 | false =>
  simp only [Bool.false_eq_true, if_false] at h₂ ⊢
  exact wpAny_mono h₂ (fun _ _ h => h) (fun _ _ h => h.elim)
 | true =>
  simp only [if_true] at h₂ ⊢
  refine wpAny_mono h₂ (fun f s₃ h₃ => ?_) (fun _ _ h => h.elim)
  cases f <;> exact h₃
theorem While_cut {test : Expr} {body : List Stmt} {pos : Pos} (J : Nat → FMap → Ledger → Prop) (P : FMap → Ledger → Prop) {n₀ : Nat}
  (F : Fr h₀ L s.heap m) (N : News h₀ L s.heap news) (hJ : J n₀ m news)
  (turn : ∀ n m₁ news₁ h₁ tk₁, Fr h₀ L h₁ m₁ → News h₀ L h₁ news₁ → J n m₁ news₁ →
   wpAny (model prog w) A (isTrue test env (eval test env)) (fun b s₂ =>
    if b = true then wpAny (model prog w) A (execs body env) (WPost h₀ L s J n (fun f s' => f = .next ∧ Cut h₀ L s P s')) NoE s₂ else Cut h₀ L s P s₂) NoE { s with heap := h₁, toks := tk₁ })
  (rest : ∀ m₁ news₁ h₁ tk₁, Fr h₀ L h₁ m₁ → News h₀ L h₁ news₁ → P m₁ news₁ → Q .next { s with heap := h₁, toks := tk₁ }) :
  wpAny (model prog w) A (exec (.While test body [] pos) env) Q NoE s := by
 refine wpAny_mono (Q := fun f s' => f = .next ∧ Cut h₀ L s P s') (While_gen J F N hJ fun n m₁ news₁ h₁ tk₁ F₁ N₁ J₁ => wpAny_mono (turn n m₁ news₁ h₁ tk₁ F₁ N₁ J₁) (fun b s₂ h₂ => ?_) fun _ _ h => h) (fun f s' h => ?_) fun _ _ h => h
 ·cases b with
  | false =>
   simp only [Bool.false_eq_true, if_false] at h₂ ⊢
   exact wpAny_execs_nil ⟨rfl, h₂⟩
  | true => exact h₂
 ·refine oAEEEEAAA (h) fun er2 h' tk m' news' er3 F' N' hp => ?_
  try clear h
  subst er2
  subst er3
  exact rest m' news' h' tk F' N' hp
theorem Stmt_cut {st : Stmt} (P : FMap → Ledger → Prop) (_F : Fr h₀ L s.heap m) (h : wpAny (model prog w) A (exec st env) (fun f s' => f = .next ∧ Cut h₀ L s P s') NoE s)
  (rest : ∀ m₁ news₁ h₁ tk₁, Fr h₀ L h₁ m₁ → News h₀ L h₁ news₁ → P m₁ news₁ → Q .next { s with heap := h₁, toks := tk₁ }) : wpAny (model prog w) A (exec st env) Q NoE s := by
 refine wpAny_mono h (fun f s' h => ?_) fun _ _ h => h
 refine oAEEEEAAA (h) fun er4 h' tk m' news' er5 F' N' hp => ?_
 try clear h
 subst er4
 subst er5
 exact rest m' news' h' tk F' N' hp
noncomputable def FPost (h₀ : Heap) (L : Addr) (s : Shared) (J : Nat → FMap → Ledger → Prop) (I : Addr) (it : Obj) (i : Nat) (Q : Flow → Shared → Prop) : Flow → Shared → Prop
 | .next, s' => ∃ h' tk m' news', s' = { s with heap := h', toks := tk } ∧ Fr h₀ L h' m' ∧ News h₀ L h' ((I, it) :: news') ∧ (∀ p ∈ news', p.1 ≠ I) ∧ J (i + 1) m' news'
 | .cont, s' => ∃ h' tk m' news', s' = { s with heap := h', toks := tk } ∧ Fr h₀ L h' m' ∧ News h₀ L h' ((I, it) :: news') ∧ (∀ p ∈ news', p.1 ≠ I) ∧ J (i + 1) m' news'
 | .brk, s' => Q .next s'
 | .ret v, s' => Q (.ret v) s'
theorem FPost.next {J : Nat → FMap → Ledger → Prop} {I : Addr} {it : Obj} {i : Nat} {h' : Heap} {tk : Nat} {m' : FMap} {news' : Ledger} (F : Fr h₀ L h' m') (N : News h₀ L h' ((I, it) :: news')) (hi : ∀ p ∈ news', p.1 ≠ I) (hp : J (i + 1) m' news') :
  FPost h₀ L s J I it i Q .next { s with heap := h', toks := tk } := ⟨h', tk, m', news', rfl, F, N, hi, hp⟩
theorem FPost.cont {J : Nat → FMap → Ledger → Prop} {I : Addr} {it : Obj} {i : Nat} {h' : Heap} {tk : Nat} {m' : FMap} {news' : Ledger} (F : Fr h₀ L h' m') (N : News h₀ L h' ((I, it) :: news')) (hi : ∀ p ∈ news', p.1 ≠ I) (hp : J (i + 1) m' news') :
  FPost h₀ L s J I it i Q .cont { s with heap := h', toks := tk } := ⟨h', tk, m', news', rfl, F, N, hi, hp⟩
theorem FPost.ret {J : Nat → FMap → Ledger → Prop} {I : Addr} {it : Obj} {i : Nat} {v : Value} {s' : Shared} (h : Q (.ret v) s') : FPost h₀ L s J I it i Q (.ret v) s' := h
theorem FPost.brk {J : Nat → FMap → Ledger → Prop} {I : Addr} {it : Obj} {i : Nat} {s' : Shared} (h : Q .next s') : FPost h₀ L s J I it i Q .brk s' := h
theorem WPost.ret {J : Nat → FMap → Ledger → Prop} {n : Nat} {v : Value} {s' : Shared} (h : Q (.ret v) s') : WPost h₀ L s J n Q (.ret v) s' := h
theorem WPost.brk {J : Nat → FMap → Ledger → Prop} {n : Nat} {s' : Shared} (h : Q .next s') : WPost h₀ L s J n Q .brk s' := h
theorem forLoop_gen {target : Expr} {body orelse : List Stmt} {I : Addr} {fp : List Addr} {n : Nat} {P : Nat → Value → Prop} {St : Nat → Heap → Prop}
  (W : Walks prog w A I fp [I] n P St) (hL : env.locals ≠ I) (hI : h₀.get? I = none) (J : Nat → FMap → Ledger → Prop)
  (hst : St 0 s.heap) (hsome : ∀ i h, St i h → ∃ o, h.get? I = some o) (F : Fr h₀ env.locals s.heap m) (N : News h₀ env.locals s.heap news) (hn : ∀ p ∈ news, p.1 ≠ I) (h0 : J 0 m news)
  (keep : ∀ i h h' m₁ news₁, St i h → (∀ o, h.get? I = some o → h'.get? I = some o) → (∀ b o, h₀.get? b = some o → h.get? b = some o) → Fr h₀ env.locals h' m₁ → News h₀ env.locals h' news₁ → J i m₁ news₁ → St i h')
  (turn : ∀ i v m₁ news₁ h₁ tk₁ it, i < n → P i v → J i m₁ news₁ → (∀ p ∈ news₁, p.1 ≠ I) → Fr h₀ env.locals h₁ m₁ → News h₀ env.locals h₁ ((I, it) :: news₁) →
   wpAny (model prog w) A (assign target env v) (fun _ s₂ => wpAny (model prog w) A (execs body env) (FPost h₀ env.locals s J I it i Q) NoE s₂) NoE { s with heap := h₁, toks := tk₁ })
  (done : ∀ m₁ news₁ h₁ tk₁, J n m₁ news₁ → Fr h₀ env.locals h₁ m₁ → News h₀ env.locals h₁ news₁ → wpAny (model prog w) A (execs orelse env) Q NoE { s with heap := h₁, toks := tk₁ })
  (ht : ∀ v, letOwnedTupleGo target (.ref I) v = pure () := by intro _; rfl) :
  codeAny (model prog w) A (.forLoop target (.ref I) body orelse env) (fun r s' => match r with | .ok f => Q f s' | .error e => cameBackBy (model prog w) A env NoE e s') s := by
 refine codeAny_forLoop (fun k s' => ∃ h' tk m' news' i, s' = { s with heap := h', toks := tk } ∧ St i h' ∧ Fr h₀ env.locals h' m' ∧ News h₀ env.locals h' news' ∧ (∀ p ∈ news', p.1 ≠ I) ∧ J i m' news' ∧ i ≤ n ∧ k = n + 1 - i) ?_ (n + 1)
  ⟨s.heap, s.toks, m, news, 0, rfl, hst, F, N, hn, h0, Nat.zero_le _, rfl⟩ ht
 intro k s' hz9
 refine oEEEEEAAAAAAA (hz9) fun h' tk m' news' i er6 hst' F' N' hn' hJ hi er7 => ?_
 try clear hz9
 subst er6
 subst er7
 have next : ∀ h₁ : Heap, (∀ b o, b ∉ [I] → h'.get? b = some o → h₁.get? b = some o) → Fr h₀ env.locals h₁ m' ∧ News h₀ env.locals h₁ news' := fun h₁ hk₁ =>
  ⟨⟨F'.ns.at' fun o e => hk₁ _ o (by simp [hL]) e, fun b o e => hk₁ b o (by simp; rintro rfl; rw [hI] at e; cases e) (F'.keep b o e), F'.above⟩, fun p hp => ⟨hk₁ _ _ (by simp; exact hn' p hp) (N' p hp).1, (N' p hp).2⟩⟩
 by_cases hlt : i < n
 ·refine W.item i _ _ _ hlt hst' fun v h₁ tk₁ hP hst₁ hk₁ => ?_
  refine an1 (next h₁ hk₁) fun F₁ N₁ => ?_
  refine ex1 (hsome _ _ hst₁) fun it hit => ?_
  have N₂ : News h₀ env.locals h₁ ((I, it) :: news') := fun p hp => by
   rcases List.mem_cons.mp hp with rfl | hp
   ·exact ⟨hit, Ne.symm hL, hI⟩
   ·exact N₁ p hp
  refine wpAny_mono (turn i v m' news' h₁ tk₁ it hlt hP hJ hn' F₁ N₂) (fun _ s₂ h₂ => wpAny_mono h₂ (fun f s₃ h₃ => ?_) fun _ _ h => h.elim) fun _ _ h => h.elim
  have go : (∃ h' tk m' news', s₃ = { s with heap := h', toks := tk } ∧ Fr h₀ env.locals h' m' ∧ News h₀ env.locals h' ((I, it) :: news') ∧ (∀ p ∈ news', p.1 ≠ I) ∧ J (i + 1) m' news') →
    ∃ m_1, m_1 < n + 1 - i ∧ ∃ h' tk m' news' i, s₃ = { s with heap := h', toks := tk } ∧ St i h' ∧ Fr h₀ env.locals h' m' ∧ News h₀ env.locals h' news' ∧ (∀ p ∈ news', p.1 ≠ I) ∧ J i m' news' ∧ i ≤ n ∧ m_1 = n + 1 - i := by
   intro hz9
   refine oEEEEAAAA (hz9) fun h₃' tk₃ m₃ news₃ er8 F₃ N₃ hn₃ hJ₃ => ?_
   try clear hz9
   subst er8
   refine ⟨n + 1 - (i + 1), by omega, h₃', tk₃, m₃, news₃, i + 1, rfl, ?_, F₃, fun p hp => N₃ p (.tail _ hp), hn₃, hJ₃, hlt, rfl⟩
   exact keep (i + 1) h₁ h₃' m₃ news₃ hst₁ (fun o e => by rw [hit] at e; cases e; exact (N₃ _ (.head _)).1) F₁.keep F₃ (fun p hp => N₃ p (.tail _ hp)) hJ₃
  cases f with
  | ret v => exact h₃
  | brk => exact h₃
  | cont => exact go h₃
  | next => exact go h₃
 ·have hin : i = n := by omega
  subst hin
  refine W.done _ _ _ hst' fun h₁ tk₁ hk₁ => ?_
  refine an1 (next h₁ hk₁) fun F₁ N₁ => ?_
  exact wpAny_mono (done m' news' h₁ tk₁ hJ F₁ N₁) (fun _ _ h => h) fun _ _ h => h.elim
noncomputable def ForAt (prog : Program) (w : World) (A : Around) (target : Expr) (body orelse : List Stmt) (env : Env) (Q : Flow → Shared → Prop) (x : Value) (s₁ : Shared) : Prop :=
 wpAny (model prog w) A (pyIter x) (fun it s₂ => codeAny (model prog w) A (.forLoop target it body orelse env) (fun r s' => match r with | .ok f => Q f s' | .error e => cameBackBy (model prog w) A env NoE e s') s₂) NoE s₁
theorem For_enter {target iter : Expr} {body orelse : List Stmt} {pos : Pos} (h : wpAny (model prog w) A (eval iter env) (fun x s₁ => ForAt prog w A target body orelse env Q x s₁) NoE s)
  (hs : ∀ x, foldedSetIterable iter env x = pure x := by intro _; rfl) : wpAny (model prog w) A (exec (.For target iter body orelse pos) env) Q NoE s := wpAny_For h hs
end
section
variable {prog : Program} {w : World} {A : Around} {Q : Flow → Shared → Prop} {s : Shared} {env : Env} {h₀ : Heap} {m : FMap} {news : Ledger}
theorem locals_lt {L : Addr} (F : Fr h₀ L s.heap m) : L < s.heap.objs.size := F.ns.lt
theorem fresh_none {L : Addr} (F : Fr h₀ L s.heap m) : h₀.get? s.heap.objs.size = none := by
 cases hq : h₀.get? s.heap.objs.size with
 | none => rfl
 | some o => exact absurd (Heap.lt_size (F.keep _ _ hq)) (Nat.lt_irrefl _)
theorem ForAt_list {target : Expr} {body orelse : List Stmt} {l : Addr} {items : List Value} (J : Nat → FMap → Ledger → Prop)
  (hh : A.handled = none) (hl : s.heap.IsList l items.toArray) (F : Fr h₀ env.locals s.heap m) (N : News h₀ env.locals s.heap news) (h0 : J 0 m news)
  (keep : ∀ i h m₁ news₁, Fr h₀ env.locals h m₁ → News h₀ env.locals h news₁ → J i m₁ news₁ → h.IsList l items.toArray)
  (turn : ∀ i v m₁ news₁ h₁ tk₁ I it, items[i]? = some v → J i m₁ news₁ → (∀ p ∈ news₁, p.1 ≠ I) → Fr h₀ env.locals h₁ m₁ → News h₀ env.locals h₁ ((I, it) :: news₁) →
   wpAny (model prog w) A (assign target env v) (fun _ s₂ => wpAny (model prog w) A (execs body env) (FPost h₀ env.locals s J I it i Q) NoE s₂) NoE { s with heap := h₁, toks := tk₁ })
  (done : ∀ m₁ news₁ h₁ tk₁, J items.length m₁ news₁ → Fr h₀ env.locals h₁ m₁ → News h₀ env.locals h₁ news₁ → wpAny (model prog w) A (execs orelse env) Q NoE { s with heap := h₁, toks := tk₁ })
  (ht : ∀ I v, letOwnedTupleGo target (.ref I) v = pure () := by intro _ _; rfl) :
  ForAt prog w A target body orelse env Q (.ref l) s := by
 have hlt : l < s.heap.objs.size := by obtain ⟨o, ho, _⟩ := hl; exact Heap.lt_size ho
 refine wpAny_pyIter_list hl ?_
 have W := Walks.list (prog := prog) (w := w) hh s.heap.objs.size l (Nat.ne_of_lt hlt) items.toArray
 have hsz : items.toArray.size = items.length := by simp
 rw [hsz] at W
 refine forLoop_gen (s := { s with heap := _ }) (news := news) (m := m) (h₀ := h₀) W (Nat.ne_of_lt (locals_lt F)) (fresh_none F) J
  ⟨⟨_, Heap.get?_push_size _ rfl, rfl, rfl⟩, hl.at fun o e => Heap.get?_push_of_some _ e⟩ (fun i h st => by obtain ⟨⟨o, ho, _⟩, _⟩ := st; exact ⟨o, ho⟩) (F.push _) (fun p hp => ⟨Heap.get?_push_of_some _ (N p hp).1, (N p hp).2⟩) (fun p hp => Nat.ne_of_lt (Heap.lt_size (N p hp).1)) h0 ?_ ?_ done (ht _)
 ·rintro i h h' m₁ news₁ ⟨⟨o, ho, r⟩, _⟩ hI _ F' N' hJ
  exact ⟨⟨o, hI o ho, r⟩, keep i h' m₁ news₁ F' N' hJ⟩
 ·intro i v m₁ news₁ h₁ tk₁ it hi hP hJ hn F' N'
  exact turn i v m₁ news₁ h₁ tk₁ _ it (by simpa using hP) hJ hn F' N'
theorem ForAt_tuple {target : Expr} {body orelse : List Stmt} {l : Addr} {items : List Value} (J : Nat → FMap → Ledger → Prop)
  (hh : A.handled = none) (hl : s.heap.IsTuple l items.toArray) (F : Fr h₀ env.locals s.heap m) (N : News h₀ env.locals s.heap news) (h0 : J 0 m news)
  (keep : ∀ i h m₁ news₁, Fr h₀ env.locals h m₁ → News h₀ env.locals h news₁ → J i m₁ news₁ → h.IsTuple l items.toArray)
  (turn : ∀ i v m₁ news₁ h₁ tk₁ I it, items[i]? = some v → J i m₁ news₁ → (∀ p ∈ news₁, p.1 ≠ I) → Fr h₀ env.locals h₁ m₁ → News h₀ env.locals h₁ ((I, it) :: news₁) →
   wpAny (model prog w) A (assign target env v) (fun _ s₂ => wpAny (model prog w) A (execs body env) (FPost h₀ env.locals s J I it i Q) NoE s₂) NoE { s with heap := h₁, toks := tk₁ })
  (done : ∀ m₁ news₁ h₁ tk₁, J items.length m₁ news₁ → Fr h₀ env.locals h₁ m₁ → News h₀ env.locals h₁ news₁ → wpAny (model prog w) A (execs orelse env) Q NoE { s with heap := h₁, toks := tk₁ })
  (ht : ∀ I v, letOwnedTupleGo target (.ref I) v = pure () := by intro _ _; rfl) :
  ForAt prog w A target body orelse env Q (.ref l) s := by
 have hlt : l < s.heap.objs.size := by obtain ⟨o, ho, _⟩ := hl; exact Heap.lt_size ho
 refine wpAny_pyIter_tuple hl ?_
 have W := Walks.tuple (prog := prog) (w := w) hh s.heap.objs.size l (Nat.ne_of_lt hlt) items.toArray
 have hsz : items.toArray.size = items.length := by simp
 rw [hsz] at W
 refine forLoop_gen (s := { s with heap := _ }) (news := news) (m := m) (h₀ := h₀) W (Nat.ne_of_lt (locals_lt F)) (fresh_none F) J
  ⟨⟨_, Heap.get?_push_size _ rfl, rfl, rfl⟩, hl.at fun o e => Heap.get?_push_of_some _ e⟩ (fun i h st => by obtain ⟨⟨o, ho, _⟩, _⟩ := st; exact ⟨o, ho⟩) (F.push _) (fun p hp => ⟨Heap.get?_push_of_some _ (N p hp).1, (N p hp).2⟩) (fun p hp => Nat.ne_of_lt (Heap.lt_size (N p hp).1)) h0 ?_ ?_ done (ht _)
 ·rintro i h h' m₁ news₁ ⟨⟨o, ho, r⟩, _⟩ hI _ F' N' hJ
  exact ⟨⟨o, hI o ho, r⟩, keep i h' m₁ news₁ F' N' hJ⟩
 ·intro i v m₁ news₁ h₁ tk₁ it hi hP hJ hn F' N'
  exact turn i v m₁ news₁ h₁ tk₁ _ it (by simpa using hP) hJ hn F' N'
theorem ForAt_range {target : Expr} {body orelse : List Stmt} {r : Addr} {b : Int} {t u v : Tok} {n : Nat} (J : Nat → FMap → Ledger → Prop)
  (hh : A.handled = none) (hr : IsRange s.heap r 0 b 1 t u v) (hb : b = n) (hn : n < 2 ^ 62) (F : Fr h₀ env.locals s.heap m) (N : News h₀ env.locals s.heap news) (h0 : J 0 m news)
  (turn : ∀ i t m₁ news₁ h₁ tk₁ I it, i < n → J i m₁ news₁ → (∀ p ∈ news₁, p.1 ≠ I) → Fr h₀ env.locals h₁ m₁ → News h₀ env.locals h₁ ((I, it) :: news₁) →
   wpAny (model prog w) A (assign target env (.int i t)) (fun _ s₂ => wpAny (model prog w) A (execs body env) (FPost h₀ env.locals s J I it i Q) NoE s₂) NoE { s with heap := h₁, toks := tk₁ })
  (done : ∀ m₁ news₁ h₁ tk₁, J n m₁ news₁ → Fr h₀ env.locals h₁ m₁ → News h₀ env.locals h₁ news₁ → wpAny (model prog w) A (execs orelse env) Q NoE { s with heap := h₁, toks := tk₁ })
  (ht : ∀ I v, letOwnedTupleGo target (.ref I) v = pure () := by intro _ _; rfl) :
  ForAt prog w A target body orelse env Q (.ref r) s := by
 subst hb
 have hsize : Builtin.Range.rangeSize 0 (n : Int) 1 = n := by
  rw [rangeSize_one]; by_cases h : (0 : Int) < n
  ·rw [if_pos h]; omega
  ·rw [if_neg h]; omega
 refine wpAny_pyIter_range hr (small_one (by decide) (by decide) (by omega) (by omega)) ?_
 have W := Walks.range (prog := prog) (w := w) (A := A) hh s.heap.objs.size 0 1 n
 refine forLoop_gen (s := { s with heap := _ }) (news := news) (m := m) (h₀ := h₀) W (Nat.ne_of_lt (locals_lt F)) (fresh_none F) J ?_ (fun i h st => ⟨_, st⟩) (F.push _)
  (fun p hp => ⟨Heap.get?_push_of_some _ (N p hp).1, (N p hp).2⟩) (fun p hp => Nat.ne_of_lt (Heap.lt_size (N p hp).1)) h0 ?_ ?_ done (ht _)
 ·show IsRangeIter _ _ _ _ _
  have := Heap.get?_push_size s.heap (o := { cls := .type "range_iterator", data := .fields #[rawInt 0, rawInt (Builtin.Range.rangeSize 0 n 1), rawInt 1] }) rfl
  rw [hsize] at this ⊢
  simpa [IsRangeIter] using this
 ·intro i h h' m₁ news₁ st hI _ F' N' hJ
  exact hI _ st
 ·rintro i v m₁ news₁ h₁ tk₁ it hi ⟨t, rfl⟩ hJ hn' F' N'
  have e : (0 : Int) + (i : Nat) * 1 = i := by omega
  rw [e]
  exact turn i t m₁ news₁ h₁ tk₁ _ it hi hJ hn' F' N'
theorem ForAt_bytes {target : Expr} {body orelse : List Stmt} {b : Array UInt8} {t : Tok} (J : Nat → FMap → Ledger → Prop)
  (hh : A.handled = none) (F : Fr h₀ env.locals s.heap m) (N : News h₀ env.locals s.heap news) (h0 : J 0 m news)
  (turn : ∀ i c t m₁ news₁ h₁ tk₁ I it, b[i]? = some c → J i m₁ news₁ → (∀ p ∈ news₁, p.1 ≠ I) → Fr h₀ env.locals h₁ m₁ → News h₀ env.locals h₁ ((I, it) :: news₁) →
   wpAny (model prog w) A (assign target env (.int (c.toNat : Int) t)) (fun _ s₂ => wpAny (model prog w) A (execs body env) (FPost h₀ env.locals s J I it i Q) NoE s₂) NoE { s with heap := h₁, toks := tk₁ })
  (done : ∀ m₁ news₁ h₁ tk₁, J b.size m₁ news₁ → Fr h₀ env.locals h₁ m₁ → News h₀ env.locals h₁ news₁ → wpAny (model prog w) A (execs orelse env) Q NoE { s with heap := h₁, toks := tk₁ })
  (ht : ∀ I v, letOwnedTupleGo target (.ref I) v = pure () := by intro _ _; rfl) :
  ForAt prog w A target body orelse env Q (.bytes b t) s := by
 refine KBw.pyIter_bytes ?_
 have W := KBw.walks (prog := prog) (w := w) (A := A) hh s.heap.objs.size b t
 refine forLoop_gen (s := { s with heap := _ }) (news := news) (m := m) (h₀ := h₀) W (Nat.ne_of_lt (locals_lt F)) (fresh_none F) J ⟨_, Heap.get?_push_size _ rfl, rfl, rfl⟩ (fun i h st => by obtain ⟨o, ho, _⟩ := st; exact ⟨o, ho⟩) (F.push _)
  (fun p hp => ⟨Heap.get?_push_of_some _ (N p hp).1, (N p hp).2⟩) (fun p hp => Nat.ne_of_lt (Heap.lt_size (N p hp).1)) h0 ?_ ?_ done (ht _)
 ·rintro i h h' m₁ news₁ ⟨o, ho, r⟩ hI _ F' N' hJ
  exact ⟨o, hI _ ho, r⟩
 ·rintro i v m₁ news₁ h₁ tk₁ it hi ⟨c, u, hc, rfl⟩ hJ hn' F' N'
  exact turn i c u m₁ news₁ h₁ tk₁ _ it hc hJ hn' F' N'
theorem rangeSize_two {n : Nat} {b : Int} (hb : b = 2 * ((n : Int) + 1)) : Builtin.Range.rangeSize 2 b 2 = n := by
 subst hb
 unfold Builtin.Range.rangeSize
 simp only [show (2 : Int) > 0 by decide, if_true]
 split <;> omega
theorem fitsLong {x : Int} (h1 : -(2 ^ 63) ≤ x) (h2 : x < 2 ^ 63) : Builtin.Range.rangeFitsLong x = true := by
 unfold Builtin.Range.rangeFitsLong
 rw [decide_eq_true h1, decide_eq_true h2]; rfl
theorem small_two {n : Nat} {b : Int} (hn : n < 2 ^ 60) (hb : b = 2 * ((n : Int) + 1)) : Builtin.Range.small 2 b 2 = true := by
 unfold Builtin.Range.small
 rw [rangeSize_two hb, fitsLong (by decide) (by decide), fitsLong (by omega) (by omega), fitsLong (x := (n : Int)) (by omega) (by omega), if_pos (by decide), fitsLong (x := b + (2 - 1)) (by omega) (by omega)]
 simp
theorem intsAre_of : ∀ (vs : List Value) (f : Nat → Int), (∀ j v, vs[j]? = some v → ∃ t, v = Value.int (f j) t) → IntsAre vs ((List.range vs.length).map f)
 | [], _, _ => .nil
 | v :: vs, f, h => by
  refine ex1 (h 0 v rfl) fun t er9 => ?_
  subst er9
  rw [List.length_cons, List.range_succ_eq_map, List.map_cons, List.map_map]
  exact .cons _ t (intsAre_of vs (f ∘ Nat.succ) fun j v hv => h (j + 1) v (by simpa using hv))
theorem list_rangeK {L : Addr} {Q : Value → Shared → Prop} {E : Value → Shared → Prop} {r : Addr} {a b c : Int} {t u v : Tok} {n : Nat} (hh : A.handled = none) (F : Fr h₀ L s.heap m) (N : News h₀ L s.heap news) (hr : IsRange s.heap r a b c t u v)
  (hsmall : Builtin.Range.small a b c = true) (hn : Builtin.Range.rangeSize a b c = n) (hlen : n ≤ 2 ^ 24)
  (h : ∀ h' tk vs ep, (∀ p ∈ news, p.1 ≠ s.heap.objs.size) → Fr h₀ L h' m → News h₀ L h' ((s.heap.objs.size, listOf vs.toArray ep) :: news) → IntsAre vs ((List.range n).map fun (i : Nat) => a + (i : Int) * c) → Q (.ref s.heap.objs.size) { s with heap := h', toks := tk }) :
  wpAny (model prog w) A (call (.type "list") [.ref r]) Q E s := by
 refine call_list_range hh hr hsmall hn hlen fun h' tk acc' c' hk hS hacc => ?_
 refine h h' tk acc'.toList c' (fun p hp => Nat.ne_of_lt (Heap.lt_size (N p hp).1)) (F.keeps hk) (fun p hp => ?_) ?_
 ·rcases List.mem_cons.mp hp with rfl | hp
  ·exact ⟨hS, Nat.ne_of_gt F.ns.lt, fresh_none F⟩
  ·exact ⟨hk _ _ (N p hp).1, (N p hp).2⟩
 ·have hl : acc'.toList.length = n := by rw [Array.length_toList]; exact hacc.1
  rw [← hl]
  exact intsAre_of _ _ fun j v hv => hacc.2 j v (by simpa using hv)
end
end
section
open PySem PySem.W PyProof.Rows PySem.Calls
theorem meets_bool_new_list (l : Addr) (items : Array Value) (hfit : (items.size : Int) < 2 ^ 63) :
  Meets (Builtin.«bool.__new__» ⟨[.type "bool", .ref l], []⟩) (fun _ R s => s.heap.IsList l items ∧ R (.ok (.ret (.bool (!items.isEmpty)))) { s with toks := s.toks + 1 + 1 }) :=
 Meets.of_wp fun prog w A R s hs => by
  obtain ⟨hp, g, d, tk, os⟩ := s
  have f1 := F.conv_sub_bool
  have hl := hs.1
  have hs' := hs.2
  repeat (any_goals (first | assumption | (refine wpAny_truthy_list hl hfit ?_) | wp_step))
  all_goals first | exact ⟨_, rfl, hs'⟩ | exact hs' | skip
section
variable {prog : Program} {w : World} {A : Around} {E : Value → Shared → Prop} {s : Shared}
theorem call_bool_list {l : Addr} {items : Array Value} {Q : Value → Shared → Prop} (hl : s.heap.IsList l items) (hfit : (items.size : Int) < 2 ^ 63) (h : Q (.bool (!items.isEmpty)) { s with toks := s.toks + 1 + 1 }) :
  wpAny (model prog w) A (call (.type "bool") [.ref l]) Q E s :=
 call_bool_1 (meets_bool_new_list l items hfit) ⟨hl, show wants (fun obj s₁ => s₁.TypeIs obj "bool" ∧ Q obj s₁) E _ _ from ⟨rfl, h⟩⟩
end
end
section
open PySem PySem.W PyProof.Rows PySem.Calls PySem.Spec
open PyProof.Rows.LCg PyProof.Rows.LCt
section
variable {prog : Program} {w : World} {A : Around} {E : Value → Shared → Prop} {s : Shared} {h₀ : Heap} {L : Addr} {m : FMap} {env : Env} {ct elt : PySem.Expr} {x : Str} {scope : Scope} {cl : List (Str × Addr)} {S : Ledger → Prop} {P : Nat → Value → Prop} {Fin : List Value → Ledger → Prop} {n : Nat}
theorem CompEnd_mono {s₁ : Shared} {I C D : Addr} {oI oC oD : Obj} {r r' : Value → Ledger → Prop} {y : Value} {s₂ : Shared} (h : CompEnd h₀ L m s₁ I oI C oC D oD S r y s₂) (hr : ∀ nw, r y nw → r' y nw) : CompEnd h₀ L m s₁ I oI C oC D oD S r' y s₂ := by
 refine oEEEAAAAA (h) fun h' tk nw e F N o hS hy => ?_
 try clear h
 exact ⟨h', tk, nw, e, F, N, o, hS, hr nw hy⟩
theorem restT_inv (J : Nat → List Value → Ledger → Prop)
  (turn : ∀ i ys nw, i < n → J i ys nw → ∀ v I oI C oC D m₂ h tk (E' : Value → Shared → Prop), P i v → NsObj oC m₂ → m₂ x = some v → Fr h₀ L h m → News h₀ L h ((I, oI) :: (C, oC) :: (D, lst ys) :: nw) → Off3 I C D nw → ((@Ne Nat I C) ∧ (@Ne Nat I D) ∧ (@Ne Nat C D)) →
   wpAny (model prog w) A (isTrue ct (compEnvC scope cl C env) (eval ct (compEnvC scope cl C env))) (fun ok s' => if ok = true then
    wpAny (model prog w) A (eval elt (compEnvC scope cl C env)) (CompEnd h₀ L m { s with heap := h, toks := tk } I oI C oC D (lst ys) S (fun y nw' => J (i + 1) (ys ++ [y]) nw')) E' s'
    else CompEnd h₀ L m { s with heap := h, toks := tk } I oI C oC D (lst ys) S (fun _ nw' => J (i + 1) ys nw') Value.none s') E' { s with heap := h, toks := tk })
  (fin : ∀ ys nw, J n ys nw → Fin ys nw) : ∀ k i ys nw, i + k = n → J i ys nw → CompRestT prog w A h₀ L m env ct elt x scope cl s S P Fin k i ys nw
 | 0, i, ys, nw, e, hj => CompRestT.zero (fin ys nw (by rw [Nat.add_zero] at e; exact e ▸ hj))
 | k + 1, i, ys, nw, e, hj => CompRestT.succ fun v I oI C oC D m₂ h tk E' hP hC hm F N off hne => by
  refine wpAny_mono (turn i ys nw (by omega) hj v I oI C oC D m₂ h tk E' hP hC hm F N off hne) (fun ok s' h' => ?_) fun _ _ e => e
  cases ok with
  | true =>
   simp only [if_true] at h' ⊢
   exact wpAny_mono h' (fun y s₂ h₂ => CompEnd_mono h₂ fun nw' hj' => restT_inv J turn fin k (i + 1) (ys ++ [y]) nw' (by omega) hj') fun _ _ e => e
  | false =>
   simp only [Bool.false_eq_true, if_false] at h' ⊢
   exact CompEnd_mono h' fun nw' hj' => restT_inv J turn fin k (i + 1) ys nw' (by omega) hj'
theorem rest_inv (J : Nat → List Value → Ledger → Prop)
  (turn : ∀ i ys nw, i < n → J i ys nw → ∀ v I oI C oC D m₂ h tk (E' : Value → Shared → Prop), P i v → NsObj oC m₂ → m₂ x = some v → Fr h₀ L h m → News h₀ L h ((I, oI) :: (C, oC) :: (D, lst ys) :: nw) → Off3 I C D nw → ((@Ne Nat I C) ∧ (@Ne Nat I D) ∧ (@Ne Nat C D)) →
    wpAny (model prog w) A (eval elt (compEnvC scope cl C env)) (CompEnd h₀ L m { s with heap := h, toks := tk } I oI C oC D (lst ys) S (fun y nw' => J (i + 1) (ys ++ [y]) nw')) E' { s with heap := h, toks := tk })
  (fin : ∀ ys nw, J n ys nw → Fin ys nw) : ∀ k i ys nw, i + k = n → J i ys nw → CompRest prog w A h₀ L m env elt x scope cl s S P Fin k i ys nw
 | 0, i, ys, nw, e, hj => CompRest.zero (fin ys nw (by rw [Nat.add_zero] at e; exact e ▸ hj))
 | k + 1, i, ys, nw, e, hj => CompRest.succ fun v I oI C oC D m₂ h tk E' hP hC hm F N off hne => by
  refine wpAny_mono (turn i ys nw (by omega) hj v I oI C oC D m₂ h tk E' hP hC hm F N off hne) (fun y s₂ h₂ => ?_) fun _ _ e => e
  exact CompEnd_mono h₂ fun nw' hj' => rest_inv J turn fin k (i + 1) (ys ++ [y]) nw' (by omega) hj'
noncomputable def SrcV (prog : Program) (w : World) (A : Around) (h₀ : Heap) (L : Addr) (m : FMap) (env : Env) (ct elt : PySem.Expr) (x : Str) (scope : Scope) (cl : List (Str × Addr)) (Q : Value → Shared → Prop) (xv : Value) (s₁ : Shared) : Prop :=
 ∃ (v d : Addr) (kvs : List (Int × Value)) (ep : Nat) (nw : Ledger) (od : Obj), xv = .ref v ∧ A.handled = none ∧ Fr h₀ L s₁.heap m ∧ News h₀ L s₁.heap nw ∧ s₁.heap.IsValuesView v d ∧ (∀ h' : Heap, h'.get? d = some od → h'.DictAt (intKind prog w) d kvs ep) ∧ (d, od) ∈ nw ∧ kvs.length ≤ sizeLine ∧
  ∀ s₂ : Shared, (∃ h, s₂ = { s₁ with heap := h }) → CompRestT prog w A h₀ L m env ct elt x scope cl s₂ (fun l => (d, od) ∈ l) (fun i v => ∃ k, kvs[i]? = some (k, v)) (FinE h₀ L m s₂ Q) kvs.length 0 [] nw
theorem ListComp_V {iter : PySem.Expr} {px : Pos} {pos : Pos} {Q : Value → Shared → Prop} (F₀ : Fr h₀ L s.heap m)
  (hclos : closureFor scope env = pure cl) (hcell : ∀ y ∈ scope.names, y.2 ≠ .cell) (hkind : scope.kind = .function)
  (hnames : ∀ y ∈ scope.names, y.2 = .local → scope.names.lookup y.1 = some .local) (hx : scope.names.lookup x = some .local)
  (h : wpAny (model prog w) A (eval iter env) (SrcV prog w A h₀ L m env ct elt x scope cl Q) E s)
  (hs : ∀ x, foldedSetIterable iter env x = pure x := by intro _; rfl) :
  wpAny (model prog w) A (eval (.ListComp elt [⟨.Name x px, iter, [ct], 0⟩] scope pos) env) Q E s := by
 rw [eval_ListComp]
 refine wpAny_comprehension_free (use := none) rfl hs hclos hkind hnames (wpAny_mono h (fun xv s₁ h₁ => ?_) fun _ _ e => e)
 refine oEEEEEEAAAAAAAA (h₁) fun v d kvs ep nw od er1 hh F N hv hd hm hsz R => ?_
 try clear h₁
 subst er1
 have hD := hd _ (N.get hm)
 have hlt : d < s₁.heap.objs.size := Heap.lt_size (N.get hm)
 refine wpAny_pyIter_values hv hD ?_
 have up : ∀ b o, s₁.heap.get? b = some o → (s₁.heap.push { cls := .type "dict_valueiterator", data := .fields #[.ref d, .int 0 0, .int kvs.length 0, .int ep 0] }).get? b = some o := fun b o e => Heap.get?_push_of_some _ e
 refine block_T (S := fun l => (d, od) ∈ l) (Walks.dictValues (knd := intKind prog w) hh s₁.heap.objs.size d (Nat.ne_of_lt hlt) kvs ep) hsz (fun i h st => by obtain ⟨⟨o, ho, _⟩, _⟩ := st; exact ⟨o, ho⟩) ?_ hcell hkind hx ⟨⟨_, Heap.get?_push_size _ rfl, rfl, rfl⟩, hD.push _⟩ (fun b hb => ?_)
  (F.keeps up) (N.grown up) (Nat.ne_of_lt F.ns.lt) (fresh_none F) (fun p hp => Nat.ne_of_lt (Heap.lt_size (N p hp).1)) hm (R _ ⟨_, rfl⟩) ?_
 ·rintro i h h' o nw' ⟨⟨o1, ho1, r1⟩, _⟩ e1 e2 _ N' hS'
  refine ⟨⟨o1, ?_, r1⟩, hd _ (N'.get hS')⟩
  rw [ho1] at e1; cases e1; exact e2
 ·show b < (s₁.heap.push _).objs.size
  rw [Heap.size_push]
  rcases List.mem_cons.mp hb with rfl | hb
  ·exact Nat.lt_succ_self _
  ·rw [List.mem_singleton.mp hb]; exact Nat.lt_succ_of_lt hlt
 ·intro D C h tk m' ys news' F' N' o1 hn hC₀ hD₀ hCL hDL hCD offC fin
  refine ⟨m', hn, fun h'' hs'' => fin D h'' tk (F'.change hs'' hCL hC₀) (fun p hp => ?_) o1⟩
  refine ⟨hs''.extBut _ _ ?_ (N' p hp).1, (N' p hp).2⟩
  rcases List.mem_cons.mp hp with rfl | hp
  ·exact Ne.symm hCD
  ·exact offC p hp
end
end
section
open PySem PySem.W PyProof.Rows PySem.Calls PySem.Builtin PySem.Builtin.Str
noncomputable abbrev mkS (l : List Nat) : PySem.Str := ⟨l.toArray⟩
theorem mkS_len (l : List Nat) : (mkS l).length = l.length := by simp [PySem.Str.length]
theorem mkS_inj {l l' : List Nat} (h : mkS l = mkS l') : l = l' := by
 have := congrArg (fun x : PySem.Str => x.cps.toList) h
 simpa using this
theorem mkS_beq {l l' : List Nat} : (mkS l == mkS l') = decide (l = l') := by
 by_cases h : l = l'
 ·subst h; simp
 ·rw [decide_eq_false h]; exact beq_eq_false_iff_ne.mpr fun e => h (mkS_inj e)
theorem slice_drop {l : List Nat} {p : Nat} (h : p ≤ l.length) : Txt.slice (mkS l) (some (p : Int)) none = mkS (l.drop p) := by
 rw [slice_from_eq (b := (l.length : Int)) (by omega) (by rw [mkS_len]; omega) (by rw [mkS_len])]
 congr 2
 show List.take _ (List.drop ((p : Int).toNat) l) = _
 rw [List.take_of_length_le (by rw [List.length_drop]; omega)]
 rfl
theorem slice_neg {x : PySem.Str} {q : Nat} (h0 : 0 < q) (h : q ≤ x.length) : Txt.slice x none (some (-(q : Int))) = Txt.slice x none (some ((x.length : Int) - q)) := by
 show StrLaws.sliceText x none (some _) = StrLaws.sliceText x none (some _)
 rw [StrLaws.sliceText_neg_hi x none (by omega) (by omega)]
 congr 2; omega
theorem slice_take {l : List Nat} {j : Nat} (h : j ≤ l.length) : Txt.slice (mkS l) none (some (j : Int)) = mkS (l.take j) := by
 have := beq_iff_eq.mp (slice_closes_toL (x := mkS l) (j := (j : Int)) (by omega) (by rw [mkS_len]; omega))
 rw [this]
 congr 2
theorem slice_take_neg {l : List Nat} {q : Nat} (h0 : 0 < q) (h : q ≤ l.length) : Txt.slice (mkS l) none (some (-(q : Int))) = mkS (l.take (l.length - q)) := by
 rw [slice_neg h0 (by rw [mkS_len]; exact h), mkS_len]
 have e : ((l.length : Int) - q) = ((l.length - q : Nat) : Int) := by omega
 rw [e]
 exact slice_take (by omega)
theorem slice_none {l : List Nat} : Txt.slice (mkS l) none none = mkS l := by
 show StrLaws.sliceText (mkS l) none none = _
 have e : StrLaws.sliceText (mkS l) none none = StrLaws.sliceText (mkS l) none (some ((mkS l).length : Int)) := by
  unfold StrLaws.sliceText
  rw [StrLaws.sliceIdx_none_hi]
 rw [e]
 show Txt.slice (mkS l) none (some ((mkS l).length : Int)) = _
 rw [mkS_len, slice_take (Nat.le_refl _), List.take_length]
theorem item_pos {l : List Nat} {p : Nat} (h : p < l.length) : Txt.item (mkS l) (p : Int) = mkS [l.getD p 0] := by
 unfold Txt.item Txt.charAt
 rw [seqIndex_of (by omega) (by rw [mkS_len]; omega)]
 simp [h]
theorem item_neg {l : List Nat} {q : Nat} (h : q < l.length) : Txt.item (mkS l) (-(q : Int) - 1) = mkS [l.getD (l.length - 1 - q) 0] := by
 unfold Txt.item Txt.charAt
 rw [PySem.seqIndex_neg (by omega) (by rw [mkS_len]; omega)]
 have e : (-(q : Int) - 1 + ((mkS l).length : Nat)).toNat = l.length - 1 - q := by rw [mkS_len]; omega
 rw [e]
 have h' : l.length - 1 - q < l.length := by omega
 simp [h']
section
variable {prog : Program} {w : World} {A : Around} {E : Value → Shared → Prop} {s : Shared} {h₀ : Heap} {L : Addr} {m : FMap} {news : Ledger} {t : Tok} {value slice : PySem.Expr} {Q : Value → Shared → Prop} {l : List Nat}
theorem sl_nn (hF : Fr h₀ L s.heap m) (hN : News h₀ L s.heap news) (h : ∀ h' t' k, Fr h₀ L h' m → News h₀ L h' news → Q (.str (mkS l) t') { s with heap := h', toks := k })
  (hs : subscripted slice false (.str (mkS l) t) (.ref s.heap.objs.size) = operate [.ref s.heap.objs.size, .str (mkS l) t] (getItem (.str (mkS l) t) (.ref s.heap.objs.size)) := by with_unfolding_all rfl)
  (ht : ∀ r, letTemporaryGo value (.str (mkS l) t) r = pure () := by intro _; with_unfolding_all rfl) (hsz : (mkS l).length ≤ sizeLine := by size_fits) :
  wpAny (model prog w) A (subscriptTail value slice (.str (mkS l) t) (.ref s.heap.objs.size)) Q E { s with heap := s.heap.push { cls := .type "slice", data := .fields #[.none, .none, .none] } } :=
 slice_strN_nn hF hN (by rw [slice_none]; exact h) hs ht hsz
theorem sl_sn {p : Nat} {i : Int} {ui : Tok} (hi : i = (p : Int)) (hp : p ≤ l.length) (hF : Fr h₀ L s.heap m) (hN : News h₀ L s.heap news) (h : ∀ h' t' k, Fr h₀ L h' m → News h₀ L h' news → Q (.str (mkS (l.drop p)) t') { s with heap := h', toks := k })
  (hs : subscripted slice false (.str (mkS l) t) (.ref s.heap.objs.size) = operate [.ref s.heap.objs.size, .str (mkS l) t] (getItem (.str (mkS l) t) (.ref s.heap.objs.size)) := by with_unfolding_all rfl)
  (ht : ∀ r, letTemporaryGo value (.str (mkS l) t) r = pure () := by intro _; with_unfolding_all rfl) (hsz : (mkS l).length ≤ sizeLine := by size_fits) :
  wpAny (model prog w) A (subscriptTail value slice (.str (mkS l) t) (.ref s.heap.objs.size)) Q E { s with heap := s.heap.push { cls := .type "slice", data := .fields #[.int i ui, .none, .none] } } :=
 slice_strN_sn hF hN (by rw [hi, slice_drop hp]; exact h) hs ht hsz
theorem sl_neg {q : Nat} {i : Int} {ui : Tok} (hi : i = -(q : Int)) (h0 : 0 < q) (hp : q ≤ l.length) (hF : Fr h₀ L s.heap m) (hN : News h₀ L s.heap news) (h : ∀ h' t' k, Fr h₀ L h' m → News h₀ L h' news → Q (.str (mkS (l.take (l.length - q))) t') { s with heap := h', toks := k })
  (hs : subscripted slice false (.str (mkS l) t) (.ref s.heap.objs.size) = operate [.ref s.heap.objs.size, .str (mkS l) t] (getItem (.str (mkS l) t) (.ref s.heap.objs.size)) := by with_unfolding_all rfl)
  (ht : ∀ r, letTemporaryGo value (.str (mkS l) t) r = pure () := by intro _; with_unfolding_all rfl) (hsz : (mkS l).length ≤ sizeLine := by size_fits) :
  wpAny (model prog w) A (subscriptTail value slice (.str (mkS l) t) (.ref s.heap.objs.size)) Q E { s with heap := s.heap.push { cls := .type "slice", data := .fields #[.none, .int i ui, .none] } } :=
 slice_strN_ns hF hN (by rw [hi, slice_take_neg h0 hp]; exact h) hs ht hsz
end
noncomputable def cpl : List Nat → List Nat → Nat
 | a :: as, b :: bs => if a = b then cpl as bs + 1 else 0
 | _, _ => 0
theorem cpl_le_left : ∀ X Y, cpl X Y ≤ X.length
 | [], _ => by simp [cpl]
 | _ :: _, [] => by simp [cpl]
 | a :: as, b :: bs => by
  unfold cpl; split
  ·have := cpl_le_left as bs; simp; omega
  ·simp
theorem cpl_le_right : ∀ X Y, cpl X Y ≤ Y.length
 | [], _ => by simp [cpl]
 | _ :: _, [] => by simp [cpl]
 | a :: as, b :: bs => by
  unfold cpl; split
  ·have := cpl_le_right as bs; simp; omega
  ·simp
theorem cpl_step : ∀ {X Y : List Nat} {p : Nat}, p ≤ cpl X Y → p < X.length → p < Y.length → X.getD p 0 = Y.getD p 0 → p + 1 ≤ cpl X Y
 | [], _, _, _, h, _, _ => by simp at h
 | _ :: _, [], _, _, _, h, _ => by simp at h
 | a :: as, b :: bs, 0, _, _, _, e => by
  have : a = b := by simpa using e
  unfold cpl; rw [if_pos this]; omega
 | a :: as, b :: bs, p + 1, h, h1, h2, e => by
  unfold cpl at h ⊢
  split at h
  ·rename_i hab
   rw [if_pos hab]
   have := cpl_step (X := as) (Y := bs) (p := p) (by omega) (by simpa using h1) (by simpa using h2) (by simpa using e)
   omega
  ·omega
theorem cpl_at : ∀ {X Y : List Nat} {p : Nat}, p < cpl X Y → p < X.length ∧ p < Y.length ∧ X.getD p 0 = Y.getD p 0
 | [], _, _, h => by simp [cpl] at h
 | _ :: _, [], _, h => by simp [cpl] at h
 | a :: as, b :: bs, 0, h => by
  unfold cpl at h
  split at h
  ·rename_i hab; simp [hab]
  ·omega
 | a :: as, b :: bs, p + 1, h => by
  unfold cpl at h
  split at h
  ·have := cpl_at (X := as) (Y := bs) (p := p) (by omega)
   refine ⟨by simp; exact this.1, by simp; exact this.2.1, by simpa using this.2.2⟩
  ·omega
theorem cpl_comm : ∀ X Y, cpl X Y = cpl Y X
 | [], [] => rfl
 | [], _ :: _ => rfl
 | _ :: _, [] => rfl
 | a :: as, b :: bs => by
  unfold cpl
  by_cases h : a = b
  ·rw [if_pos h, if_pos h.symm, cpl_comm as bs]
  ·rw [if_neg h, if_neg (fun e => h e.symm)]
theorem slice_neg_len {l : List Nat} {q : Nat} (h0 : 0 < q) (h : q ≤ l.length) : (Txt.slice (mkS l) none (some (-(q : Int)))).length = l.length - q := by
 rw [slice_take_neg h0 h, mkS_len, List.length_take]; omega
theorem getD_rev {l : List Nat} {q : Nat} (h : q < l.length) : l.reverse.getD q 0 = l.getD (l.length - 1 - q) 0 := by
 have h' : l.length - 1 - q < l.length := by omega
 simp [h, h']
theorem rev_step {X Y : List Nat} {q : Nat} (h : q ≤ cpl X.reverse Y.reverse) (h1 : q < X.length) (h2 : q < Y.length) (e : (mkS [X.getD (X.length - 1 - q) 0] == mkS [Y.getD (Y.length - 1 - q) 0]) = true) : q + 1 ≤ cpl X.reverse Y.reverse := by
 rw [mkS_beq, decide_eq_true_eq] at e
 exact cpl_step h (by simpa using h1) (by simpa using h2) (by rw [getD_rev h1, getD_rev h2]; simpa using e)
theorem rev_stop {X Y : List Nat} {q : Nat} (h : q ≤ cpl X.reverse Y.reverse) (e : q < X.length → q < Y.length → (mkS [X.getD (X.length - 1 - q) 0] == mkS [Y.getD (Y.length - 1 - q) 0]) = false) : q = cpl X.reverse Y.reverse := by
 rcases Nat.lt_or_ge q (cpl X.reverse Y.reverse) with h' | h'
 ·refine an2 (cpl_at h') fun a b c => ?_
  rw [List.length_reverse] at a b
  rw [getD_rev a, getD_rev b] at c
  have := e a b
  rw [c] at this
  simp at this
 ·omega
noncomputable def subF (x y : PySem.Str) : Int := if (x == y) = true then 0 else if (Txt.lower x == Txt.lower y) = true then 1 else 2
noncomputable def subN (c d : Nat) : Int := subF (mkS [c]) (mkS [d])
noncomputable def innerR (c : Nat) : List Nat → List Int → Int → Int → Int → List Int × Int × Int × Int
 | d :: S, r :: row, dist, res, mn =>
  let res' := min (min res r + 2) (dist + subN c d)
  let t := innerR c S row r res' (if res' < mn then res' else mn)
  (res' :: t.1, t.2)
 | _, row, dist, res, mn => (row, dist, res, mn)
noncomputable def big : Int := 9223372036854775807
noncomputable def outerR (S : List Nat) (bound : Int) : List Nat → Nat → List Int → Int → Int
 | [], _, _, res => res
 | c :: G, i, row, res =>
  let t := innerR c S row (2 * i) (2 * i) big
  if t.2.2.2 > bound then bound + 1 else outerR S bound G (i + 1) t.1 t.2.2.1
theorem min_ite (x y : Int) : (if y < x then y else x) = min x y := by
 by_cases h : y < x
 ·rw [if_pos h]; omega
 ·rw [if_neg h]; omega
theorem innerR_cons (c d : Nat) (S : List Nat) (r : Int) (row : List Int) (dist res mn : Int) : innerR c (d :: S) (r :: row) dist res mn =
  (min (min res r + 2) (dist + subN c d) :: (innerR c S row r (min (min res r + 2) (dist + subN c d)) (if min (min res r + 2) (dist + subN c d) < mn then min (min res r + 2) (dist + subN c d) else mn)).1,
   (innerR c S row r (min (min res r + 2) (dist + subN c d)) (if min (min res r + 2) (dist + subN c d) < mn then min (min res r + 2) (dist + subN c d) else mn)).2) := rfl
theorem innerR_nil (c : Nat) (dist res mn : Int) : innerR c [] [] dist res mn = ([], dist, res, mn) := rfl
theorem outerR_cons (S : List Nat) (bound : Int) (c : Nat) (G : List Nat) (i : Nat) (row : List Int) (res : Int) : outerR S bound (c :: G) i row res =
  if (innerR c S row (2 * i) (2 * i) big).2.2.2 > bound then bound + 1 else outerR S bound G (i + 1) (innerR c S row (2 * i) (2 * i) big).1 (innerR c S row (2 * i) (2 * i) big).2.2.1 := rfl
theorem drop_getD {α : Type} {l : List α} {i : Nat} (d : α) (h : i < l.length) : l.drop i = l.getD i d :: l.drop (i + 1) := by
 rw [List.drop_eq_getElem_cons h]; simp [h]
theorem inner_step {cb : Nat} {S : List Nat} {row dn : List Int} {i : Nat} {dist res mn : Int} {R : List Int × Int × Int × Int} (hS : i < S.length) (hr : row.length = S.length)
  (h : (dn ++ (innerR cb (S.drop i) (row.drop i) dist res mn).1, (innerR cb (S.drop i) (row.drop i) dist res mn).2) = R) {res' mn' : Int} (hres : res' = min (min res (row.getD i 0) + 2) (dist + subN cb (S.getD i 0))) (hmn : mn' = if res' < mn then res' else mn) :
  ((dn ++ [res']) ++ (innerR cb (S.drop (i + 1)) (row.drop (i + 1)) (row.getD i 0) res' mn').1, (innerR cb (S.drop (i + 1)) (row.drop (i + 1)) (row.getD i 0) res' mn').2) = R := by
 rw [drop_getD 0 hS, drop_getD 0 (by omega : i < row.length), innerR_cons, ← hres, ← hmn] at h
 rw [← h]; simp
theorem set_at {dn : List Int} {row : List Int} {i : Nat} (x : Int) (hd : dn.length = i) (hr : i < row.length) : (dn ++ row.drop i).set i x = (dn ++ [x]) ++ row.drop (i + 1) := by
 rw [drop_getD 0 hr, ← hd]; simp
theorem get_at {dn : List Int} {row : List Int} {i : Nat} (hd : dn.length = i) (hr : i < row.length) : (dn ++ row.drop i).getD i 0 = row.getD i 0 := by
 rw [drop_getD 0 hr, ← hd]; simp
noncomputable def rowsF (S G : List Nat) (bound : Int) : Int := outerR S bound G 0 ((List.range S.length).map fun (i : Nat) => 2 * ((i : Int) + 1)) 0
noncomputable def coreF (A B : List Nat) (bound : Int) : Int :=
 if A = [] ∨ B = [] then 2 * ((A.length : Int) + B.length)
 else if B.length < A.length then (if ((A.length : Int) - B.length) * 2 > bound then bound + 1 else rowsF B A bound)
 else (if ((B.length : Int) - A.length) * 2 > bound then bound + 1 else rowsF A B bound)
noncomputable def trimR (A B : List Nat) : List Nat := A.take (A.length - cpl A.reverse B.reverse)
noncomputable def levF (X Y : List Nat) (bound : Int) : Int :=
 if X = Y then 0 else
  coreF (trimR (X.drop (cpl X Y)) (Y.drop (cpl X Y))) (trimR (Y.drop (cpl X Y)) (X.drop (cpl X Y))) bound
end
section
noncomputable def b64A : List Nat := [65,66,67,68,69,70,71,72,73,74,75,76,77,78,79,80,81,82,83,84,85,86,87,88,89,90,97,98,99,100,101,102,103,104,105,106,107,108,109,110,111,112,113,114,115,116,117,118,119,120,121,122,48,49,50,51,52,53,54,55,56,57,43,47]
noncomputable def b64C (i : Nat) : Nat := b64A.getD i 0
noncomputable def emits (lc lb : Nat) : List Nat := (List.range (lb / 6)).map fun j => b64C (lc / 2 ^ (lb - 6 * (j + 1)) % 64)
theorem emits_lt {lc lb : Nat} (h : lb < 6) : emits lc lb = [] := by
 unfold emits
 rw [Nat.div_eq_of_lt h]; rfl
theorem emits_ge {lc lb : Nat} (h : 6 ≤ lb) : emits lc lb = b64C (lc / 2 ^ (lb - 6) % 64) :: emits lc (lb - 6) := by
 unfold emits
 refine ex1 ((⟨lb / 6 - 1, by omega⟩ : ∃ k, lb / 6 = k + 1)) fun k hk => ?_
 have hk' : (lb - 6) / 6 = k := by omega
 rw [hk, hk', List.range_succ_eq_map, List.map_cons, List.map_map]
 congr 1
 apply List.map_congr_left
 intro j _
 show b64C (lc / 2 ^ (lb - 6 * (j + 1 + 1)) % 64) = _
 have e : lb - 6 * (j + 1 + 1) = lb - 6 - 6 * (j + 1) := by omega
 rw [e]
noncomputable def stepE (st : Nat × Nat × List Nat) (b : Nat) : Nat × Nat × List Nat := ((st.1 + 8) % 6, (st.2.1 * 256 + b) % 65536, st.2.2 ++ emits ((st.2.1 * 256 + b) % 65536) (st.1 + 8))
noncomputable def encS (l : List Nat) : Nat × Nat × List Nat := l.foldl stepE (0, 0, [])
noncomputable def encF (l : List Nat) : List Nat :=
 let st := encS l
 if st.1 = 2 then st.2.2 ++ [b64C (st.2.1 % 4 * 16), 61, 61] else if st.1 = 4 then st.2.2 ++ [b64C (st.2.1 % 16 * 4), 61] else st.2.2
theorem encS_snoc (l : List Nat) (b : Nat) : encS (l ++ [b]) = stepE (encS l) b := by
 unfold encS; rw [List.foldl_append]; rfl
theorem encS_lb : ∀ (l : List Nat), (encS l).1 < 6 := by
 intro l
 rcases List.eq_nil_or_concat l with rfl | ⟨l, b, rfl⟩
 ·exact (by decide)
 ·rw [List.concat_eq_append, encS_snoc]
  exact Nat.mod_lt _ (by decide)
theorem encS_lc : ∀ (l : List Nat), (encS l).2.1 < 65536 := by
 intro l
 rcases List.eq_nil_or_concat l with rfl | ⟨l, b, rfl⟩
 ·exact (by decide)
 ·rw [List.concat_eq_append, encS_snoc]
  exact Nat.mod_lt _ (by decide)
theorem or_nat (x y : Nat) : PySem.Builtin.bitOr (x : Int) (y : Int) = ((x ||| y : Nat) : Int) := by
 unfold PySem.Builtin.bitOr PySem.Builtin.bitAnd PySem.Builtin.bitNot
 have h1 : decide (0 ≤ -(x : Int) - 1) = false := decide_eq_false (by omega)
 have h2 : decide (0 ≤ -(y : Int) - 1) = false := decide_eq_false (by omega)
 rw [h1, h2]
 have e1 : (-(-(x : Int) - 1) - 1).toNat = x := by omega
 have e2 : (-(-(y : Int) - 1) - 1).toNat = y := by omega
 simp only [e1, e2]
 omega
theorem or_shift {lc b : Nat} (h : b < 256) : PySem.Builtin.bitOr ((lc : Int) * 2 ^ (8 : Int).toNat) (b : Int) = ((lc * 256 + b : Nat) : Int) := by
 have e : (lc : Int) * 2 ^ (8 : Int).toNat = ((lc * 256 : Nat) : Int) := by
  show (lc : Int) * 2 ^ 8 = _
  omega
 rw [e, or_nat]
 congr 1
 have := Nat.shiftLeft_add_eq_or_of_lt (b := b) (i := 8) h lc
 rw [Nat.shiftLeft_eq] at this
 exact this.symm
theorem lc_step {lc b : Nat} (h : b < 256) : PySem.Builtin.bitAnd (PySem.Builtin.bitOr ((lc : Int) * 2 ^ (8 : Int).toNat) (b : Int)) 65535 = (((lc * 256 + b) % 65536 : Nat) : Int) := by
 rw [or_shift h, PyProof.Rows.bitAnd_m16]
 omega
theorem idx_shift {lc n : Nat} (h : 6 ≤ n) : PySem.Builtin.bitAnd ((lc : Int).fdiv (2 ^ ((n : Int) - 6).toNat)) 63 = ((lc / 2 ^ (n - 6) % 64 : Nat) : Int) := by
 rw [PyProof.Rows.bitAnd_m6]
 have e : ((n : Int) - 6).toNat = n - 6 := by omega
 rw [e]
 have e2 : (lc : Int).fdiv (2 ^ (n - 6)) = ((lc / 2 ^ (n - 6) : Nat) : Int) := by
  have : ((2 : Int) ^ (n - 6)) = ((2 ^ (n - 6) : Nat) : Int) := by simp
  rw [this, Int.fdiv_eq_ediv_of_nonneg _ (Int.natCast_nonneg _)]
  rfl
 rw [e2]
 omega
theorem idx_two {lc : Nat} : PySem.Builtin.bitAnd (lc : Int) 3 * 2 ^ (4 : Int).toNat = ((lc % 4 * 16 : Nat) : Int) := by
 rw [PyProof.Rows.bitAnd_m2]
 show (lc : Int) % 4 * 2 ^ 4 = _
 omega
theorem idx_four {lc : Nat} : PySem.Builtin.bitAnd (lc : Int) 15 * 2 ^ (2 : Int).toNat = ((lc % 16 * 4 : Nat) : Int) := by
 rw [PyProof.Rows.bitAnd_m4]
 show (lc : Int) % 16 * 2 ^ 2 = _
 omega
noncomputable abbrev b64U : List UInt8 := [65,66,67,68,69,70,71,72,73,74,75,76,77,78,79,80,81,82,83,84,85,86,87,88,89,90,97,98,99,100,101,102,103,104,105,106,107,108,109,110,111,112,113,114,115,116,117,118,119,120,121,122,48,49,50,51,52,53,54,55,56,57,43,47]
theorem b64U_at : ∀ j, j < 64 → (b64U.getD j 0).toNat = b64C j := by decide
theorem b64C_lt : ∀ j, j < 64 → b64C j < 256 := by decide
section
open PySem PySem.W PyProof.Rows PySem.Calls
variable {prog : Program} {w : World} {A : Around} {E : Value → Shared → Prop} {s : Shared} {Q : Value → Shared → Prop}
theorem b64_item {i : Int} {j : Nat} {t ui : Tok} {value slice : PySem.Expr} (hi : i = (j : Int)) (hj : j < 64) (h : Q (.int (b64C j : Nat) s.toks) { s with toks := s.toks + 1 })
  (hs : subscripted slice false (.bytes b64U.toArray t) (.int i ui) = operate [.bytes b64U.toArray t, .int i ui] (getItem (.bytes b64U.toArray t) (.int i ui)) := by with_unfolding_all rfl)
  (ht : ∀ r, letTemporaryGo value (.bytes b64U.toArray t) r = pure () := by intro _; with_unfolding_all rfl) : wpAny (model prog w) A (subscriptTail value slice (.bytes b64U.toArray t) (.int i ui)) Q E s := by
 subst hi
 refine bytes_item_K (by decide) (by omega) (by show (j : Int) < 64; omega) ?_ h hs ht
 rw [Int.toNat_natCast, b64U_at j hj]
end
theorem emits_len (lc lb : Nat) : (emits lc lb).length = lb / 6 := by unfold emits; rw [List.length_map, List.length_range]
theorem stepE_len (st : Nat × Nat × List Nat) (b : Nat) (h : st.1 < 6) : (stepE st b).2.2.length ≤ st.2.2.length + 2 := by
 unfold stepE; dsimp only; rw [List.length_append, emits_len]; omega
theorem encS_len : ∀ (n : Nat) (l : List Nat), l.length = n → (encS l).2.2.length ≤ 2 * n
 | 0, l, h => by rw [List.length_eq_zero_iff.mp h]; exact Nat.zero_le _
 | n + 1, l, h => by
  rcases List.eq_nil_or_concat l with rfl | ⟨l', b, rfl⟩
  ·cases h
  ·rw [List.concat_eq_append] at h ⊢
   rw [List.length_append] at h
   simp at h
   have ih := encS_len n l' h
   rw [encS_snoc]
   have := stepE_len (encS l') b (encS_lb l')
   omega
theorem emits_byte (lc lb : Nat) : ∀ c ∈ emits lc lb, c < 256 := by
 intro c hc
 unfold emits at hc
 refine oEA (List.mem_map.mp hc) fun j _ er1 => ?_
 subst er1
 exact b64C_lt _ (Nat.mod_lt _ (by decide))
theorem encS_byte : ∀ (n : Nat) (l : List Nat), l.length = n → ∀ c ∈ (encS l).2.2, c < 256
 | 0, l, h => by rw [List.length_eq_zero_iff.mp h]; intro c hc; cases hc
 | n + 1, l, h => by
  rcases List.eq_nil_or_concat l with rfl | ⟨l', b, rfl⟩
  ·cases h
  ·rw [List.concat_eq_append] at h ⊢
   rw [List.length_append] at h
   simp at h
   have ih := encS_byte n l' h
   rw [encS_snoc]
   unfold stepE; dsimp only
   intro c hc
   rcases List.mem_append.mp hc with h | h
   ·exact ih c h
   ·exact emits_byte _ _ c h
noncomputable def bytesOf (l : List Nat) : Array UInt8 := (l.map Nat.toUInt8).toArray
theorem bytesOf_ints (l : List Nat) : ((l.map fun (c : Nat) => (c : Int)).map fun n => n.toNat.toUInt8).toArray = bytesOf l := by
 unfold bytesOf
 rw [List.map_map]; rfl
open PySem PySem.W PyProof.Rows in
theorem step_push {g h : Heap} {L D : Addr} {vs : List Value} {ns : List Nat} {c : Nat} {t : Tok} {e : Nat} {news : List (Addr × Obj)} (hI : IntsAre vs (ns.map fun (c : Nat) => (c : Int))) (hN : News g L h ((D, listOf (vs.toArray.push (.int (c : Nat) t)) e) :: news)) :
  ∃ vs', IntsAre vs' ((ns ++ [c]).map fun (c : Nat) => (c : Int)) ∧ News g L h ((D, listOf (List.toArray vs') e) :: news) := by
 rw [List.push_toArray] at hN
 refine ⟨_, ?_, hN⟩
 rw [List.map_append]
 exact hI.append (.cons _ _ .nil)
theorem encF_byte (l : List Nat) : ∀ c ∈ encF l, c < 256 := by
 unfold encF
 have h := encS_byte _ l rfl
 dsimp only
 intro c hc
 split at hc
 ·rcases List.mem_append.mp hc with q | q
  ·exact h c q
  ·rcases List.mem_cons.mp q with rfl | q
   ·exact b64C_lt _ (by omega)
   ·simp at q; omega
 ·split at hc
  ·rcases List.mem_append.mp hc with q | q
   ·exact h c q
   ·rcases List.mem_cons.mp q with rfl | q
    ·exact b64C_lt _ (by omega)
    ·simp at q; omega
  ·exact h c hc
theorem encF_len (l : List Nat) : (encF l).length ≤ 2 * l.length + 3 := by
 unfold encF
 have h := encS_len _ l rfl
 dsimp only
 split
 ·rw [List.length_append]; simp; omega
 ·split
  ·rw [List.length_append]; simp; omega
  ·omega
end
section
open PySem PySem.W PyProof.Rows PySem.Calls PySem.Builtin PySem.Builtin.Str
section
open Builtin._codecs
theorem ascii_none {l : List Nat} (hl : ∀ c ∈ l, c < 128) : Array.findIdx? asciiCodec.bad l.toArray = none := by
 rw [Array.findIdx?_eq_none_iff]
 intro c hc
 exact decide_eq_false (Nat.not_le_of_lt (hl c (by simpa using hc)))
theorem ascii_fold1 : ∀ (l : List Nat) (acc : Array UInt8), l.foldl (fun acc y => acc ++ (asciiCodec.bytesOf y).toArray) acc = acc ++ bytesOf l
 | [], acc => by simp [bytesOf]
 | c :: l, acc => by
  rw [List.foldl_cons, ascii_fold1 l]
  show (acc ++ #[c.toUInt8]) ++ _ = _
  unfold bytesOf
  apply Array.toList_inj.mp
  simp
theorem ascii_fold (l : List Nat) : Array.foldl (fun acc y => acc ++ (asciiCodec.bytesOf y).toArray) #[] (l.toArray.extract 0) = bytesOf l := by
 rw [show l.toArray.extract 0 = l.toArray by simp, List.foldl_toArray, ascii_fold1]; simp
theorem ascii_ok {c : Nat} (h : c < 128) : (!asciiCodec.bad c) = true := by
 show (!decide (c ≥ 128)) = true
 rw [decide_eq_false (Nat.not_le_of_lt h)]; rfl
theorem ascii_size {l : List Nat} (h : l.length ≤ 1000) : ¬ ((bytesOf l).size > sizeLine) := by
 rw [show (bytesOf l).size = l.length by unfold bytesOf; simp, sizeLine_eq]; omega
theorem encodeNarrow_ascii {prog : Program} {w : World} {A : Around} {E : Value → Shared → Prop} {s : Shared} {Q : Array UInt8 → Shared → Prop} {id : String} {self : Value} {l : List Nat} (h2 : 2 ≤ l.length) (h3 : l.length ≤ 1000) (hl : ∀ c ∈ l, c < 128)
  (h : Q (bytesOf l) s) : wpAny (model prog w) A (encodeNarrow id asciiCodec none self (mkS l)) Q E s := by
 obtain ⟨c0, l1, rfl⟩ : ∃ c0 l1, l = c0 :: l1 := by
  cases l with
  | nil => simp at h2
  | cons c l => exact ⟨c, l, rfl⟩
 refine ex1 ((⟨(c0 :: l1).length - 2, by rw [mkS_len]; omega⟩ : ∃ k, (mkS (c0 :: l1)).length = k + 2)) fun k hk => ?_
 have hsz : Std.Legacy.Range.size { start := 0, stop := (mkS (c0 :: l1)).length, step := 1, step_pos := Nat.one_pos } = k + 2 := by
  rw [hk]; simp [Std.Legacy.Range.size]
 have e : List.range' 0 (k + 2) 1 = 0 :: 1 :: List.range' 2 k 1 := rfl
 have hb0 := ascii_ok (hl c0 (.head _))
 have e0 : (c0 :: l1).toArray.extract 0 = (c0 :: l1).toArray := by simp
 have e2 := ascii_none hl
 have e4 := ascii_fold (c0 :: l1)
 have e5 := ascii_size (l := c0 :: l1) h3
 have e6 : (c0 :: l1).toArray[0 + (c0 :: l1).toArray.size]? = none := by simp
 unfold encodeNarrow
 dsimp only
 rw [Std.Legacy.Range.forIn_eq_forIn_range']
 show wpAny _ _ (forIn (List.range' 0 (Std.Legacy.Range.size { start := 0, stop := (mkS (c0 :: l1)).length, step := 1, step_pos := Nat.one_pos }) 1) _ _ >>= _) _ _ _
 rw [hsz]
 rw [e, List.forIn_cons]
 dsimp only
 rw [if_neg (by show ¬ (0 > sizeLine); exact Nat.not_lt_zero _)]
 show wpAny _ _ ((if (!asciiCodec.bad c0) = true then _ else _) >>= _ >>= _) _ _ _
 rw [if_pos hb0]
 refine wpAny_bind (wpAny_bind (wpAny_pure ?_))
 rw [e0, e2]
 simp only [Option.getD_none]
 rw [List.forIn_cons]
 dsimp only
 rw [e4]
 rw [if_neg e5]
 rw [e6]
 refine wpAny_bind (wpAny_pure ?_)
 exact wpAny_pure (wpAny_pure h)
end
theorem slot_bytes_upper : Slot "bytes" "upper" "bytes.upper" :=
 .of (owner := "bytes") (n := "upper") (by rw [typeLookup_type, builtinLookup_eq_fast]; kernel_rfl) (by decide +kernel) (by decide +kernel) (by decide +kernel)
  (by first | exact .inl (by decide +kernel) | exact .inr (by decide +kernel)) (by rw [isSubtype_type]; kernel_rfl)
theorem type_bytes_upper : typeOf (.builtin "bytes.upper") = pure (.type "method_descriptor") := by show builtinType _ = _; rw [builtinType_eq_fast]; kernel_rfl
theorem entry_bytes_upper : entryFor table "bytes.upper" = some Builtin.«bytes.upper» := entryFor_of_tree (by kernel_rfl)
theorem args_bytes_upper_1 (a : Value) : argsOk "bytes.upper" ⟨[a], []⟩ := by unfold argsOk; kernel_rfl
noncomputable def hexD (n : Nat) : Nat := if n < 10 then 48 + n else 87 + n
noncomputable def hexOut (b : Array UInt8) : Array Nat := b.toList.zipIdx.foldl (fun (out : Array Nat) (c, i) => (out.push (Bytes.hexDigit (c.toNat / 16))).push (Bytes.hexDigit (c.toNat % 16))) #[]
theorem hex_tree (b : Array UInt8) (t : Tok) : «bytes.hex» ⟨[.bytes b t], []⟩ = retStr ⟨hexOut b⟩ := by kernel_rfl
theorem upper_tree (b : Array UInt8) (t : Tok) : «bytes.upper» ⟨[.bytes b t], []⟩ = (do ret (← mkBytes (b.toList.map Bytes.toUpper).toArray)) := by kernel_rfl
theorem hexOut_list : ∀ (l : List (UInt8 × Nat)) (acc : Array Nat), l.foldl (fun (out : Array Nat) (c, i) => (out.push (Bytes.hexDigit (c.toNat / 16))).push (Bytes.hexDigit (c.toNat % 16))) acc = acc ++ ((l.map (·.1)).flatMap fun c => [hexD (c.toNat / 16), hexD (c.toNat % 16)]).toArray
 | [], acc => by simp
 | (c, i) :: l, acc => by
  rw [List.foldl_cons, hexOut_list l]
  apply Array.toList_inj.mp
  simp [hexD, Bytes.hexDigit]
theorem hexOut_eq (b : Array UInt8) : hexOut b = (b.toList.flatMap fun c => [hexD (c.toNat / 16), hexD (c.toNat % 16)]).toArray := by
 unfold hexOut
 rw [hexOut_list]
 simp
section
variable {prog : Program} {w : World} {A : Around} {E : Value → Shared → Prop} {s : Shared} {Q : Value → Shared → Prop}
theorem call_hex {b : Array UInt8} {t : Tok} (hb : b.size ≤ 1000) (h : ∀ t' k, Q (.str (mkS (b.toList.flatMap fun c => [hexD (c.toNat / 16), hexD (c.toNat % 16)])) t') { s with toks := k }) :
  wpAny (model prog w) A (call (.builtin "bytes.hex") [.bytes b t]) Q E s := by
 refine call_meets (S := fun _ R s => ∀ t' k, R (.ok (.ret (.str (mkS (b.toList.flatMap fun c => [hexD (c.toNat / 16), hexD (c.toNat % 16)])) t'))) { s with toks := k }) FB.slot_bytes_hex (typeIs_bytes _ _ _) FB.entry_bytes_hex (FB.args_bytes_hex_1 _) (.of_wp fun prog w A R s hS => ?_) h
 rw [hex_tree, hexOut_eq]
 refine wpAny_bind (wpAny_mkStr (wpAny_pure ⟨_, rfl, hS _ _⟩) ?_)
 show (mkS _).length ≤ _
 rw [mkS_len, sizeLine_eq, List.length_flatMap]
 have : ∀ l : List UInt8, (l.map fun c => [hexD (c.toNat / 16), hexD (c.toNat % 16)].length).sum = 2 * l.length := by
  intro l
  induction l with
  | nil => rfl
  | cons c l ih => rw [List.map_cons, List.sum_cons, ih, List.length_cons]; simp; omega
 rw [this, Array.length_toList]; omega
theorem call_upper {b : Array UInt8} {t : Tok} (hb : b.size ≤ 1000) (h : ∀ t' k, Q (.bytes (b.toList.map Bytes.toUpper).toArray t') { s with toks := k }) :
  wpAny (model prog w) A (call (.builtin "bytes.upper") [.bytes b t]) Q E s := by
 refine call_meets (S := fun _ R s => ∀ t' k, R (.ok (.ret (.bytes (b.toList.map Bytes.toUpper).toArray t'))) { s with toks := k }) slot_bytes_upper (typeIs_bytes _ _ _) entry_bytes_upper (args_bytes_upper_1 _) (.of_wp fun prog w A R s hS => ?_) h
 rw [upper_tree]
 exact wpAny_bind (wpAny_mkBytes (wpAny_pure ⟨_, rfl, hS _ _⟩) (by rw [sizeLine_eq]; simp; omega))
open Builtin._codecs in
theorem encode_ascii_tree (x : PySem.Str) (t u : Tok) : «str.encode» ⟨[.str x t, .str (PySem.Str.ofString "ascii") u], []⟩ = (do ret (← (do mkBytes (← encodeNarrow "str.encode" asciiCodec none (.str x t) x)))) := by
 first | rfl | kernel_rfl
theorem call_encode {l : List Nat} {t u : Tok} (h2 : 2 ≤ l.length) (h3 : l.length ≤ 1000) (hl : ∀ c ∈ l, c < 128) (h : ∀ t' k, Q (.bytes (bytesOf l) t') { s with toks := k }) :
  wpAny (model prog w) A (call (.builtin "str.encode") [.str (mkS l) t, .str (PySem.Str.ofString "ascii") u]) Q E s := by
 refine call_meets (S := fun _ R s => ∀ t' k, R (.ok (.ret (.bytes (bytesOf l) t'))) { s with toks := k }) PySem.F.slot_str_encode rfl PySem.F.entry_str_encode (PySem.F.args_str_encode_2 _ _) (.of_wp fun prog w A R s hS => ?_) h
 rw [encode_ascii_tree]
 refine wpAny_bind (wpAny_bind (encodeNarrow_ascii h2 h3 hl (wpAny_mkBytes (wpAny_pure ⟨_, rfl, hS _ _⟩) ?_)))
 unfold bytesOf; rw [sizeLine_eq]; simp; omega
end
noncomputable def hexUp (n : Nat) : Nat := if n < 10 then 48 + n else 55 + n
noncomputable def hexE (l : List Nat) : List Nat := l.flatMap fun o => [hexUp (o / 16), hexUp (o % 16)]
theorem up_one : ∀ n, n < 16 → Bytes.toUpper (hexD n).toUInt8 = (hexUp n).toUInt8 := by decide
theorem hexD_lt : ∀ n, n < 16 → hexD n < 128 := by decide
theorem up_all : ∀ (l : List UInt8), ((bytesOf (l.flatMap fun c => [hexD (c.toNat / 16), hexD (c.toNat % 16)])).toList.map Bytes.toUpper).toArray = bytesOf (hexE (l.map UInt8.toNat)) := by
 intro l
 apply Array.toList_inj.mp
 unfold bytesOf hexE
 show (((l.flatMap fun c => [hexD (c.toNat / 16), hexD (c.toNat % 16)]).map Nat.toUInt8).map Bytes.toUpper) = ((l.map UInt8.toNat).flatMap fun o => [hexUp (o / 16), hexUp (o % 16)]).map Nat.toUInt8
 induction l with
 | nil => rfl
 | cons c l ih =>
  have hc : c.toNat < 256 := c.toNat_lt
  rw [List.flatMap_cons, List.map_append, List.map_append, ih, show List.map UInt8.toNat (c :: l) = c.toNat :: List.map UInt8.toNat l from rfl, List.flatMap_cons, List.map_append]
  congr 1
  simp only [List.map_cons, List.map_nil]
  rw [up_one _ (by omega), up_one _ (by omega)]
theorem hexE_len (l : List Nat) : (hexE l).length = 2 * l.length := by
 unfold hexE
 induction l with
 | nil => rfl
 | cons c l ih => rw [List.flatMap_cons, List.length_append, ih, List.length_cons]; simp; omega
theorem hex_len (l : List UInt8) : (l.flatMap fun c => [hexD (c.toNat / 16), hexD (c.toNat % 16)]).length = 2 * l.length := by
 induction l with
 | nil => rfl
 | cons c l ih => rw [List.flatMap_cons, List.length_append, ih, List.length_cons]; simp; omega
theorem hex_small (l : List UInt8) : ∀ x ∈ (l.flatMap fun c => [hexD (c.toNat / 16), hexD (c.toNat % 16)]), x < 128 := by
 intro x hx
 refine oEA (List.mem_flatMap.mp hx) fun c _ hc => ?_
 have h : c.toNat < 256 := c.toNat_lt
 rcases List.mem_cons.mp hc with rfl | hc
 ·exact hexD_lt _ (by omega)
 ·rw [List.mem_singleton.mp hc]; exact hexD_lt _ (by omega)
end
section
open PySem PySem.W PyProof.Rows PySem.Calls PySem.Spec
open PyProof.Rows.LCg PyProof.Rows.LCt
section
variable {prog : Program} {w : World} {A : Around} {E : Value → Shared → Prop} {s : Shared} {h₀ : Heap} {L : Addr} {m : FMap} {env : Env} {ct elt : PySem.Expr} {x : Str} {scope : Scope} {cl : List (Str × Addr)} {S : Ledger → Prop} {P : Nat → Value → Prop} {n : Nat}
noncomputable def SrcY (prog : Program) (w : World) (A : Around) (h₀ : Heap) (L : Addr) (m : FMap) (env : Env) (elt : PySem.Expr) (x : Str) (scope : Scope) (cl : List (Str × Addr)) (Q : Value → Shared → Prop) (xv : Value) (s₁ : Shared) : Prop :=
 ∃ (b : Array UInt8) (t : Tok) (nw : Ledger), xv = .bytes b t ∧ A.handled = none ∧ Fr h₀ L s₁.heap m ∧ News h₀ L s₁.heap nw ∧ b.size ≤ sizeLine ∧
  ∀ s₂ : Shared, (∃ h, s₂ = { s₁ with heap := h }) → CompRest prog w A h₀ L m env elt x scope cl s₂ (fun _ => True) (fun i v => ∃ c u, b[i]? = some c ∧ v = .int (c.toNat : Int) u) (FinE h₀ L m s₂ Q) b.size 0 [] nw
theorem ListComp_Y {iter : PySem.Expr} {px : Pos} {pos : Pos} {Q : Value → Shared → Prop} (F₀ : Fr h₀ L s.heap m)
  (hclos : closureFor scope env = pure cl) (hcell : ∀ y ∈ scope.names, y.2 ≠ .cell) (hkind : scope.kind = .function)
  (hnames : ∀ y ∈ scope.names, y.2 = .local → scope.names.lookup y.1 = some .local) (hx : scope.names.lookup x = some .local)
  (h : wpAny (model prog w) A (eval iter env) (SrcY prog w A h₀ L m env elt x scope cl Q) E s)
  (hs : ∀ x, foldedSetIterable iter env x = pure x := by intro _; rfl) :
  wpAny (model prog w) A (eval (.ListComp elt [⟨.Name x px, iter, [], 0⟩] scope pos) env) Q E s := by
 rw [eval_ListComp]
 refine wpAny_comprehension_free (use := none) rfl hs hclos hkind hnames (wpAny_mono h (fun xv s₁ h₁ => ?_) fun _ _ e => e)
 refine oEEEAAAAA (h₁) fun b t nw er1 hh F N hsz R => ?_
 try clear h₁
 subst er1
 refine KBw.pyIter_bytes ?_
 have up : ∀ a o, s₁.heap.get? a = some o → (s₁.heap.push { cls := .type "bytes_iterator", data := .fields #[.bytes b t, .int 0 0] }).get? a = some o := fun a o e => Heap.get?_push_of_some _ e
 refine block_U (S := fun _ => True) (KBw.walks hh s₁.heap.objs.size b t) hsz (fun i h st => by obtain ⟨o, ho, _⟩ := st; exact ⟨o, ho⟩) ?_ hcell hkind hx ⟨_, Heap.get?_push_size _ rfl, rfl, rfl⟩ (fun b hb => ?_)
  (F.keeps up) (N.grown up) (Nat.ne_of_lt F.ns.lt) (fresh_none F) (fun p hp => Nat.ne_of_lt (Heap.lt_size (N p hp).1)) trivial (R _ ⟨_, rfl⟩) ?_
 ·rintro i h h' o nw' ⟨o1, ho1, r1⟩ e1 e2 _ N' hS'
  refine ⟨o1, ?_, r1⟩
  rw [ho1] at e1; cases e1; exact e2
 ·show b < (s₁.heap.push _).objs.size
  rw [Heap.size_push, List.mem_singleton.mp hb]
  exact Nat.lt_succ_self _
 ·intro D C h tk m' ys news' F' N' o1 hn hC₀ hD₀ hCL hDL hCD offC fin
  refine ⟨m', hn, fun h'' hs'' => fin D h'' tk (F'.change hs'' hCL hC₀) (fun p hp => ?_) o1⟩
  refine ⟨hs''.extBut _ _ ?_ (N' p hp).1, (N' p hp).2⟩
  rcases List.mem_cons.mp hp with rfl | hp
  ·exact Ne.symm hCD
  ·exact offC p hp
end
theorem join_flat : ∀ (ls : List (List Nat)), Str.join (Str.ofString "") (ls.map mkS) = mkS ls.flatten
 | [] => by decide
 | [l] => by
  show mkS l = mkS [l].flatten
  rw [List.flatten_cons, List.flatten_nil, List.append_nil]
 | l :: l' :: ls => by
  have ih := join_flat (l' :: ls)
  show mkS l ++ Str.ofString "" ++ Str.join (Str.ofString "") ((l' :: ls).map mkS) = _
  rw [ih, List.flatten_cons]
  show (⟨(l.toArray ++ (Str.ofString "").cps) ++ ((l' :: ls).flatten).toArray⟩ : PySem.Str) = ⟨(l ++ (l' :: ls).flatten).toArray⟩
  have e : (Str.ofString "").cps = #[] := by decide
  rw [e]
  congr 1
  apply Array.toList_inj.mp
  simp
theorem strsAre_push {vs : List Value} {ys : List PySem.Str} {y : PySem.Str} {t : Tok} : StrsAre vs ys → StrsAre (vs ++ [.str y t]) (ys ++ [y])
 | .nil => .cons _ _ .nil
 | .cons y' t' h => .cons y' t' (strsAre_push h)
theorem strsAre_len {vs : List Value} {ys : List PySem.Str} : StrsAre vs ys → vs.length = ys.length
 | .nil => rfl
 | .cons _ _ h => by rw [List.length_cons, List.length_cons, strsAre_len h]
section
variable {prog : Program} {w : World} {A : Around} {E : Value → Shared → Prop} {s : Shared} {Q : Value → Shared → Prop}
theorem join_K {D : Addr} {vs : List Value} {ls : List (List Nat)} {t : Tok} (hl : s.heap.IsList D vs.toArray) (hi : StrsAre vs (ls.map mkS)) (h1 : ls.length ≤ 100) (h2 : ∀ l ∈ ls, l.length ≤ 100) (h : ∀ t' k, Q (.str (mkS ls.flatten) t') { s with toks := k }) :
  wpAny (model prog w) A (call (.builtin "str.join") [.str (Str.ofString "") t, .ref D]) Q E s := by
 refine join_listC hl hi (by decide) ?_ fun t' k => ?_
 ·rw [List.map_map, List.length_map]
  have : ∀ ls : List (List Nat), (∀ l ∈ ls, l.length ≤ 100) → (ls.map ((fun x => Str.length x) ∘ mkS)).sum ≤ 100 * ls.length := by
   intro ls
   induction ls with
   | nil => intro _; exact Nat.le_refl _
   | cons l ls ih =>
    intro h
    have h1 := ih fun x hx => h x (.tail _ hx)
    have h2 := h l (.head _)
    rw [List.map_cons, List.sum_cons, List.length_cons]
    show (mkS l).length + _ ≤ _
    rw [mkS_len]; omega
  have := this ls h2
  omega
 ·have e : Txt.join (Str.ofString "") (ls.map mkS) = mkS ls.flatten := (StrLaws.glued_eq_join _ _).trans (join_flat ls)
  rw [e]; exact h t' k
end
end
section
open PySem PySem.W PyProof.Rows PySem.Calls
noncomputable def setL (l : Ledger) (d : Addr) (o : Obj) : Ledger := l.map fun p => if p.1 = d then (d, o) else p
noncomputable def Uniq (l : Ledger) : Prop := (l.map (·.1)).Nodup
theorem setL_cons (p : Addr × Obj) (l : Ledger) (d : Addr) (o : Obj) : setL (p :: l) d o = (if p.1 = d then (d, o) else p) :: setL l d o := rfl
theorem setL_off {d : Addr} {o : Obj} : ∀ {l : Ledger}, (∀ p ∈ l, p.1 ≠ d) → setL l d o = l
 | [], _ => rfl
 | p :: l, h => by rw [setL_cons, if_neg (h p (.head _)), setL_off fun q hq => h q (.tail _ hq)]
theorem Uniq.tail {p : Addr × Obj} {l : Ledger} (U : Uniq (p :: l)) : Uniq l := (List.nodup_cons.mp U).2
theorem Uniq.off {p : Addr × Obj} {l : Ledger} (U : Uniq (p :: l)) : ∀ q ∈ l, q.1 ≠ p.1 := fun q hq e => (List.nodup_cons.mp U).1 (by show p.1 ∈ l.map (·.1); rw [← e]; exact List.mem_map_of_mem hq)
theorem upd_uniq {d : Addr} {o o' : Obj} : ∀ {l : Ledger}, Uniq l → (d, o) ∈ l → Upd d o o' l (setL l d o')
 | p :: l, U, h => by
  rcases List.mem_cons.mp h with rfl | h
  ·rw [setL_cons, if_pos rfl, setL_off U.off]
   exact .head U.off
  ·have hne : p.1 ≠ d := fun e => U.off _ h e.symm
   rw [setL_cons, if_neg hne]
   exact .tail hne (upd_uniq U.tail h)
theorem updF_uniq {d : Addr} {o : Obj} : ∀ {l : Ledger}, Uniq l → (d, o) ∈ l → UpdF d o l (fun o' => setL l d o')
 | p :: l, U, h => by
  rcases List.mem_cons.mp h with rfl | h
  ·have : (fun o' => setL ((d, o) :: l) d o') = fun o' => (d, o') :: l := by funext o'; rw [setL_cons, if_pos rfl, setL_off U.off]
   rw [this]
   exact .head U.off
  ·have hne : p.1 ≠ d := fun e => U.off _ h e.symm
   have : (fun o' => setL (p :: l) d o') = fun o' => p :: setL l d o' := by funext o'; rw [setL_cons, if_neg hne]
   rw [this]
   exact .tail hne (updF_uniq U.tail h)
theorem mem_set_self {d : Addr} {o o' : Obj} {l : Ledger} (h : (d, o) ∈ l) : (d, o') ∈ setL l d o' :=
 List.mem_map.mpr ⟨_, h, if_pos rfl⟩
theorem mem_set_ne {a d : Addr} {x o' : Obj} {l : Ledger} (h : (a, x) ∈ l) (hne : a ≠ d) : (a, x) ∈ setL l d o' :=
 List.mem_map.mpr ⟨_, h, if_neg hne⟩
theorem keys_set (l : Ledger) (d : Addr) (o : Obj) : (setL l d o).map (·.1) = l.map (·.1) := by
 unfold setL
 rw [List.map_map]
 apply List.map_congr_left
 intro p _
 by_cases h : p.1 = d <;> simp [h]
theorem Uniq.set {l : Ledger} (U : Uniq l) (d : Addr) (o : Obj) : Uniq (setL l d o) := by unfold Uniq; rw [keys_set]; exact U
theorem Uniq.cons {a : Addr} {o : Obj} {l : Ledger} (U : Uniq l) (h : ∀ p ∈ l, p.1 < a) : Uniq ((a, o) :: l) :=
 List.nodup_cons.mpr ⟨fun hm => by obtain ⟨p, hp, e⟩ := List.mem_map.mp hm; exact absurd (h p hp) (by rw [e]; exact Nat.lt_irrefl _), U⟩
theorem Uniq.cons_ne {a : Addr} {o : Obj} {l : Ledger} (U : Uniq l) (h : ∀ p ∈ l, p.1 ≠ a) : Uniq ((a, o) :: l) :=
 List.nodup_cons.mpr ⟨fun hm => by obtain ⟨p, hp, e⟩ := List.mem_map.mp hm; exact h p hp e, U⟩
theorem Uniq.same {a : Addr} {o o' : Obj} : ∀ {l : Ledger}, Uniq l → (a, o) ∈ l → (a, o') ∈ l → o = o'
 | p :: l, U, h, h' => by
  rcases List.mem_cons.mp h with e | h1
  ·rcases List.mem_cons.mp h' with e' | h2
   ·exact (Prod.mk.inj (e.trans e'.symm)).2
   ·exact absurd (by rw [← e]) (U.off _ h2)
  ·rcases List.mem_cons.mp h' with e' | h2
   ·exact absurd (by rw [← e']) (U.off _ h1)
   ·exact Uniq.same U.tail h1 h2
theorem Uniq.ne {l : Ledger} (U : Uniq l) {a b : Addr} {o o' : Obj} (h : (a, o) ∈ l) (h' : (b, o') ∈ l) (hne : o ≠ o') : a ≠ b := by
 rintro rfl; exact hne (U.same h h')
theorem allLt_mem {d : Addr} : ∀ {l : Ledger}, AllLt d l → ∀ p ∈ l, p.1 < d
 | [], _, _, hp => nomatch hp
 | q :: _, h, p, hp => by
  rcases List.mem_cons.mp hp with rfl | hp
  ·exact h.1
  ·exact allLt_mem h.2 p hp
theorem allne_lt {d x : Addr} {l : Ledger} (h : AllLt d l) (hx : d < x) : ∀ p ∈ l, p.1 ≠ x := fun p hp => Nat.ne_of_lt (Nat.lt_trans (allLt_mem h p hp) hx)
theorem allneA {d : Addr} {l : Ledger} (h : ∀ p ∈ l, p.1 < d) : ∀ p ∈ l, p.1 ≠ d := fun p hp => Nat.ne_of_lt (h p hp)
theorem allneB {d x : Addr} {l : Ledger} (h : ∀ p ∈ l, p.1 < d) (hx : d < x) : ∀ p ∈ l, p.1 ≠ x := fun p hp => Nat.ne_of_lt (Nat.lt_trans (h p hp) hx)
theorem allneC {d x y : Addr} {l : Ledger} (h : ∀ p ∈ l, p.1 < d) (hx : d < x) (hy : x < y) : ∀ p ∈ l, p.1 ≠ y := allneB h (Nat.lt_trans hx hy)
noncomputable abbrev sDict (w : World) (t1 t2 t3 t4 : Tok) (N2 : Addr) (rd : Value) (po fi : Int) (tpo tfi : Tok) : Obj := dictOf [⟨PyData.keyHash w.params (Str.ofString "_node2info"), .str (Str.ofString "_node2info") t1, .ref N2⟩, ⟨PyData.keyHash w.params (Str.ofString "_ready_nodes"), .str (Str.ofString "_ready_nodes") t2, rd⟩, ⟨PyData.keyHash w.params (Str.ofString "_npassedout"), .str (Str.ofString "_npassedout") t3, .int po tpo⟩, ⟨PyData.keyHash w.params (Str.ofString "_nfinished"), .str (Str.ofString "_nfinished") t4, .int fi tfi⟩] 4
noncomputable abbrev infoObj (dx : Addr) (k : Int) (tk : Tok) (np : Int) (tn : Tok) (sa : Addr) : Obj := ⟨.ref 100, some dx, .plain, #[some (.int k tk), some (.int np tn), some (.ref sa)]⟩
noncomputable abbrev tupOf (vs : List Value) : Obj := { cls := .type "tuple", data := .seq vs.toArray }
section
variable {prog : Program} {w : World} {A : Around} {E : Value → Shared → Prop} {s : Shared} {h₀ : Heap} {L : Addr} {m : FMap} {news : Ledger}
theorem len_tupK {t : Addr} {vs : List Value} {ns : List Int} {Q : Value → Shared → Prop} (N : News h₀ L s.heap news) (hm : (t, tupOf vs) ∈ news) (hi : IntsAre vs ns) (hb : ns.length < 2 ^ 62) (h : Q (.int ns.length (s.toks + 1)) { s with toks := s.toks + 1 + 1 }) :
  wpAny (model prog w) A (call (.builtin "len") [.ref t]) Q E s := by
 have e : vs.toArray.size = ns.length := by simp [hi.length]
 exact len_tuple (News.isTup N hm) (by rw [e]; omega) (by rw [e]; exact h)
theorem intsAre_push {vs : List Value} {ns : List Int} {x : Int} {t : Tok} (h : IntsAre vs ns) : IntsAre (vs ++ [.int x t]) (ns ++ [x]) := h.append (.cons _ _ .nil)
end
theorem units_make (A : Around) (args : Args) : (A.under (.builtin "type.__call__" args)).units = A.units + 1 := by
 first | rfl | simp [Around.under, Code.cUnits, Code.frames, Code.isFrame]
end
section
open PySem PySem.W PyProof.Rows PySem.Calls PySem.Builtin
section
variable {prog : Program} {w : World} {A : Around} {E : Value → Shared → Prop} {s : Shared} {Q : Value → Shared → Prop}
theorem str_itemK {x : PySem.Str} {l : List Nat} {j : Nat} {i : Int} {t u : Tok} {value slice : PySem.Expr} (hx : x = mkS l) (hi : i = (j : Int)) (hj : j < l.length) (hl : l.length ≤ 1000) (h : Q (.str (mkS [l.getD j 0]) s.toks) { s with toks := s.toks + 1 })
  (hs : subscripted slice false (.str x t) (.int i u) = operate [.str x t, .int i u] (getItem (.str x t) (.int i u)) := by with_unfolding_all rfl) (ht : ∀ r, letTemporaryGo value (.str x t) r = pure () := by intro _; with_unfolding_all rfl) :
  wpAny (model prog w) A (subscriptTail value slice (.str x t) (.int i u)) Q E s := by
 subst hi hx
 refine item_str (fitsSsize_of (N := 9223372036854775808) (by omega) (by omega) (Int.le_refl _)) (by rw [mkS_len]; omega) (by rw [mkS_len]; omega) (fun _ => ?_) hs ht
 rw [item_pos hj]; exact h
end
noncomputable abbrev figL : List Nat := [48,49,50,51,52,53,54,55,56,57,65,66,67,68,69,70]
theorem figS : PySem.Str.ofString "0123456789ABCDEF" = mkS figL := by decide
theorem figL_at : ∀ j, j < 16 → figL.getD j 0 = hexUp j := by decide
theorem sgnS : PySem.Str.ofString "ABCDEFGHIJKLMNOPQRSTUVWXYZabcdefghijklmnopqrstuvwxyz0123456789+/" = mkS b64A := by decide
theorem div16 {o : Nat} : (o : Int).fdiv 16 = ((o / 16 : Nat) : Int) := by
 rw [Int.fdiv_eq_ediv_of_nonneg _ (by decide)]; omega
theorem mod16 {o : Nat} : (o : Int).fmod 16 = ((o % 16 : Nat) : Int) := by
 rw [Int.fmod_eq_emod_of_nonneg _ (by decide)]; omega
theorem mkS_add (l l' : List Nat) : mkS l ++ mkS l' = mkS (l ++ l') := by
 show (⟨l.toArray ++ l'.toArray⟩ : PySem.Str) = ⟨(l ++ l').toArray⟩
 congr 1
 simp
section
variable {prog : Program} {w : World} {A : Around} {E : Value → Shared → Prop} {s : Shared} {Q : Value → Shared → Prop}
theorem add_K {l l' : List Nat} {t u : Tok} (h1 : l.length ≤ 1000) (h2 : l'.length ≤ 1000) (h : ∀ t' k, Q (.str (mkS (l ++ l')) t') { s with toks := k }) : wpAny (model prog w) A (binaryOp .Add (.str (mkS l) t) (.str (mkS l') u)) Q E s :=
 PyProof.Rows.add_str (by rw [mkS_add]; exact h) (by rw [mkS_len, mkS_len, sizeLine_eq]; omega)
theorem eq_mul : ∀ k, k < 4 → MulOk (PySem.Str.ofString "=") (k : Nat) ∧ Txt.mul (PySem.Str.ofString "=") (k : Nat) = mkS (List.replicate k 61) := by
 intro k hk
 have : k = 0 ∨ k = 1 ∨ k = 2 ∨ k = 3 := by omega
 rcases this with rfl | rfl | rfl | rfl
 all_goals exact ⟨by unfold MulOk; decide, by decide⟩
theorem eq_mulK {n : Int} {k : Nat} {t u : Tok} (hn : n = (k : Int)) (hk : k < 4) (h : ∀ t' k', Q (.str (mkS (List.replicate k 61)) t') { s with toks := k' }) : wpAny (model prog w) A (binaryOp .Mult (.str (PySem.Str.ofString "=") t) (.int n u)) Q E s := by
 subst hn
 refine SB.mul (eq_mul k hk).1 ?_
 rw [(eq_mul k hk).2]; exact h
end
end
section
noncomputable def numF (l : List Nat) : Nat := l.foldl (fun n o => n * 256 + o) 0
noncomputable def sizeF (n : Nat) : Nat := (8 * n + 5) / 6
noncomputable def sixI (st : Nat × List Nat) : Nat → Nat × List Nat
 | 0 => st
 | k + 1 => ((sixI st k).1 / 64, b64C ((sixI st k).1 % 64) :: (sixI st k).2)
noncomputable def sixF (l : List Nat) : List Nat := (sixI (numF l * 2 ^ (6 * sizeF l.length - 8 * l.length), []) (sizeF l.length)).2 ++ List.replicate ((4 - sizeF l.length % 4) % 4) 61
theorem numF_snoc (l : List Nat) (b : Nat) : numF (l ++ [b]) = numF l * 256 + b := by
 unfold numF; rw [List.foldl_append]; rfl
theorem numF_lt : ∀ (n : Nat) (l : List Nat), l.length = n → (∀ o ∈ l, o < 256) → numF l < 256 ^ n
 | 0, l, h, _ => by rw [List.length_eq_zero_iff.mp h]; decide
 | n + 1, l, h, hl => by
  rcases List.eq_nil_or_concat l with rfl | ⟨l', b, rfl⟩
  ·cases h
  ·rw [List.concat_eq_append] at h hl ⊢
   rw [List.length_append] at h
   simp at h
   have ih := numF_lt n l' h fun o ho => hl o (List.mem_append_left _ ho)
   have hb := hl b (by simp)
   rw [numF_snoc, Nat.pow_succ]
   omega
theorem sixI_len (st : Nat × List Nat) : ∀ k, (sixI st k).2.length = st.2.length + k
 | 0 => rfl
 | k + 1 => by
  show (_ :: (sixI st k).2).length = _
  rw [List.length_cons, sixI_len st k]; omega
end
section
theorem gLo (m q x b : Nat) : (x * (m * q) + b) % m = b % m := by rw [Nat.mul_left_comm, Nat.mul_add_mod]
theorem gDv {m : Nat} (q x b : Nat) (h : 0 < m) : (x * (m * q) + b) / m = x * q + b / m := by rw [Nat.mul_left_comm, Nat.mul_add_div h]
theorem gDg {m : Nat} (p q x : Nat) {b : Nat} (h : 0 < m) (hq : b / m < q) : (x * (m * q) + b) / m % (q * p) = x % p * q + b / m := by
 have h0 : 0 < q := Nat.lt_of_le_of_lt (Nat.zero_le _) hq
 rw [gDv q x b h, Nat.mod_mul, Nat.mul_comm x q, Nat.mul_add_mod, Nat.mod_eq_of_lt hq, Nat.mul_add_div h0, Nat.div_eq_of_lt hq, Nat.add_zero, Nat.add_comm, Nat.mul_comm q]
theorem gHi {m : Nat} (q x : Nat) {b : Nat} (h : 0 < m) (hq : b / m < q) : (x * (m * q) + b) / m % q = b / m := by
 rw [gDv q x b h, Nat.mul_comm, Nat.mul_add_mod, Nat.mod_eq_of_lt hq]
theorem gMd (m n q x : Nat) : x % (m * (n * q)) / m % n = x / m % n := by rw [Nat.mod_mul_right_div_self, Nat.mod_mul_right_mod]
theorem gMm (m n x : Nat) : x % (m * n) % m = x % m := Nat.mod_mul_right_mod ..
theorem qd {m r : Nat} (n q : Nat) (h : 0 < m) (hr : r < m) : (q * m + r) / (m * n) = q / n := by
 rw [← Nat.div_div_eq_div_mul, Nat.mul_comm, Nat.mul_add_div h, Nat.div_eq_of_lt hr, Nat.add_zero]
theorem qz {m r : Nat} (q : Nat) (h : 0 < m) (hr : r < m) : (q * m + r) / m = q := by
 rw [Nat.mul_comm, Nat.mul_add_div h, Nat.div_eq_of_lt hr, Nat.add_zero]
theorem qm {m r : Nat} (q : Nat) (hr : r < m) : (q * m + r) % m = r := by
 rw [Nat.mul_comm, Nat.mul_add_mod, Nat.mod_eq_of_lt hr]
theorem lt4 {b : Nat} (h : b < 256) : b / 4 < 64 := Nat.div_lt_of_lt_mul h
theorem lt16 {b : Nat} (h : b < 256) : b / 16 < 16 := Nat.div_lt_of_lt_mul h
theorem lt64 {b : Nat} (h : b < 256) : b / 64 < 4 := Nat.div_lt_of_lt_mul h
theorem dg4 (x : Nat) {b : Nat} (h : b < 256) : (x * 256 + b) / 4 % 64 = b / 4 := gHi 64 x (by decide) (lt4 h)
theorem dg16 (x : Nat) {b : Nat} (h : b < 256) : (x * 256 + b) / 16 % 64 = x % 4 * 16 + b / 16 := gDg 4 16 x (by decide) (lt16 h)
theorem dg64 (x : Nat) {b : Nat} (h : b < 256) : (x * 256 + b) / 64 % 64 = x % 16 * 4 + b / 64 := gDg 16 4 x (by decide) (lt64 h)
theorem lo4 (x b : Nat) : (x * 256 + b) % 4 = b % 4 := gLo 4 64 x b
theorem lo16 (x b : Nat) : (x * 256 + b) % 16 = b % 16 := gLo 16 16 x b
theorem lo64 (x b : Nat) : (x * 256 + b) % 64 = b % 64 := gLo 64 4 x b
theorem lc4 (x : Nat) : x % 65536 % 4 = x % 4 := gMm 4 16384 x
theorem lc16 (x : Nat) : x % 65536 % 16 = x % 16 := gMm 16 4096 x
theorem emits8 (lc : Nat) : emits lc 8 = [b64C (lc / 4 % 64)] := rfl
theorem emits10 (lc : Nat) : emits lc 10 = [b64C (lc / 16 % 64)] := rfl
theorem emits12 (lc : Nat) : emits lc 12 = [b64C (lc / 64 % 64), b64C (lc / 1 % 64)] := rfl
theorem step0 {lc b : Nat} {out : List Nat} (hb : b < 256) : stepE (0, lc, out) b = (2, (lc * 256 + b) % 65536, out ++ [b64C (b / 4)]) := by
 unfold stepE
 show ((0 + 8) % 6, _, out ++ emits _ 8) = _
 rw [emits8, show (lc * 256 + b) % 65536 / 4 % 64 = b / 4 from (gMd 4 64 256 _).trans (dg4 lc hb)]
theorem step2 {lc b : Nat} {out : List Nat} (hb : b < 256) : stepE (2, lc, out) b = (4, (lc * 256 + b) % 65536, out ++ [b64C (lc % 4 * 16 + b / 16)]) := by
 unfold stepE
 show ((2 + 8) % 6, _, out ++ emits _ 10) = _
 rw [emits10, show (lc * 256 + b) % 65536 / 16 % 64 = lc % 4 * 16 + b / 16 from (gMd 16 64 64 _).trans (dg16 lc hb)]
theorem step4 {lc b : Nat} {out : List Nat} (hb : b < 256) : stepE (4, lc, out) b = (0, (lc * 256 + b) % 65536, out ++ [b64C (lc % 16 * 4 + b / 64), b64C (b % 64)]) := by
 unfold stepE
 show ((4 + 8) % 6, _, out ++ emits _ 12) = _
 rw [emits12, Nat.div_one, show (lc * 256 + b) % 65536 / 64 % 64 = lc % 16 * 4 + b / 64 from (gMd 64 64 16 _).trans (dg64 lc hb), show (lc * 256 + b) % 65536 % 64 = b % 64 from (gMm 64 1024 _).trans (lo64 lc b)]
noncomputable def g3 (a b c : Nat) : List Nat := [b64C (a / 4), b64C (a % 4 * 16 + b / 16), b64C (b % 16 * 4 + c / 64), b64C (c % 64)]
noncomputable def r1 (a : Nat) : List Nat := [b64C (a / 4), b64C (a % 4 * 16), 61, 61]
noncomputable def r2 (a b : Nat) : List Nat := [b64C (a / 4), b64C (a % 4 * 16 + b / 16), b64C (b % 16 * 4), 61]
theorem app3 (o : List Nat) (x y : Nat) (z : List Nat) : o ++ [x] ++ [y] ++ z = o ++ (x :: y :: z) := by rw [List.append_assoc, List.append_assoc]; rfl
theorem three {lc a b c : Nat} {out : List Nat} (ha : a < 256) (hb : b < 256) (hc : c < 256) : stepE (stepE (stepE (0, lc, out) a) b) c = (0, (((lc * 256 + a) % 65536 * 256 + b) % 65536 * 256 + c) % 65536, out ++ g3 a b c) := by
 rw [step0 ha, step2 hb, step4 hc, lc4, lo4, lc16, lo16, app3]; rfl
theorem enc3 {a b c : Nat} (ha : a < 256) (hb : b < 256) (hc : c < 256) : encF [a, b, c] = g3 a b c := by
 unfold encF
 rw [show encS [a, b, c] = stepE (stepE (stepE (0, 0, []) a) b) c from rfl, three ha hb hc]
 rfl
theorem enc4 {a b c d : Nat} (ha : a < 256) (hb : b < 256) (hc : c < 256) (hd : d < 256) : encF [a, b, c, d] = g3 a b c ++ r1 d := by
 unfold encF
 rw [show encS [a, b, c, d] = stepE (stepE (stepE (stepE (0, 0, []) a) b) c) d from rfl, three ha hb hc, step0 hd]
 show _ ++ [b64C (_ % 4 * 16), 61, 61] = _
 rw [lc4, lo4]
 rfl
theorem enc5 {a b c d e : Nat} (ha : a < 256) (hb : b < 256) (hc : c < 256) (hd : d < 256) (he : e < 256) : encF [a, b, c, d, e] = g3 a b c ++ r2 d e := by
 unfold encF
 rw [show encS [a, b, c, d, e] = stepE (stepE (stepE (stepE (stepE (0, 0, []) a) b) c) d) e from rfl, three ha hb hc, step0 hd, step2 he]
 show _ ++ [b64C (_ % 16 * 4), 61] = _
 rw [lc16, lo16, lc4, lo4]
 rfl
theorem enc6 {a b c d e f : Nat} (ha : a < 256) (hb : b < 256) (hc : c < 256) (hd : d < 256) (he : e < 256) (hf : f < 256) : encF [a, b, c, d, e, f] = g3 a b c ++ g3 d e f := by
 unfold encF
 rw [show encS [a, b, c, d, e, f] = stepE (stepE (stepE (stepE (stepE (stepE (0, 0, []) a) b) c) d) e) f from rfl, three ha hb hc, three hd he hf]
 rfl
theorem sixI_add (st : Nat × List Nat) (m : Nat) : ∀ k, sixI st (m + k) = sixI (sixI st m) k
 | 0 => rfl
 | k + 1 => by
  show ((sixI st (m + k)).1 / 64, b64C ((sixI st (m + k)).1 % 64) :: (sixI st (m + k)).2) = _
  rw [sixI_add st m k]; rfl
theorem d64 (x b : Nat) : (x * 256 + b) / 64 = x * 4 + b / 64 := gDv (m := 64) 4 x b (by decide)
theorem sixI1 {n q r : Nat} {out : List Nat} (k : Nat) (h1 : n / 64 = q) (h2 : n % 64 = r) : sixI (n, out) (1 + k) = sixI (q, b64C r :: out) k := by
 rw [sixI_add, ← h1, ← h2]; rfl
theorem sixG {X a b c : Nat} {out : List Nat} (k : Nat) (ha : a < 256) (hb : b < 256) (hc : c < 256) : sixI (((X * 256 + a) * 256 + b) * 256 + c, out) (4 + k) = sixI (X, g3 a b c ++ out) k := by
 have h2 : (((X * 256 + a) * 256 + b) * 4 + c / 64) / 64 = (X * 256 + a) * 16 + b / 16 := (qd (m := 4) 16 _ (by decide) (lt64 hc)).trans (gDv (m := 16) 16 _ b (by decide))
 have h3 : ((X * 256 + a) * 16 + b / 16) / 64 = X * 64 + a / 4 := (qd (m := 16) 4 _ (by decide) (lt16 hb)).trans (gDv (m := 4) 64 _ a (by decide))
 have h4 : (X * 64 + a / 4) / 64 = X := qz X (by decide) (lt4 ha)
 have e2 : (((X * 256 + a) * 256 + b) * 4 + c / 64) % 64 = b % 16 * 4 + c / 64 := by rw [← d64, dg64 _ hc, lo16]
 have e3 : ((X * 256 + a) * 16 + b / 16) % 64 = a % 4 * 16 + b / 16 := by rw [← gDv (m := 16) 16 _ b (by decide)]; exact (dg16 _ hb).trans (by rw [lo4])
 have e4 : (X * 64 + a / 4) % 64 = a / 4 := qm X (lt4 ha)
 rw [show 4 + k = 1 + (1 + (1 + (1 + k))) by rw [← Nat.add_assoc, ← Nat.add_assoc, ← Nat.add_assoc], sixI1 _ (d64 _ c) (lo64 _ c), sixI1 _ h2 e2, sixI1 _ h3 e3, sixI1 _ h4 e4]
 rfl
theorem sixZ (X out) : sixI (X, out) 0 = (X, out) := rfl
theorem six3 {a b c : Nat} (ha : a < 256) (hb : b < 256) (hc : c < 256) : sixF [a, b, c] = g3 a b c := by
 have e1 : numF [a, b, c] = (((0 * 256 + a) * 256 + b) * 256 + c) := rfl
 have e2 : sizeF (List.length [a, b, c]) = 4 := by show sizeF 3 = 4; decide
 have e3 : 6 * 4 - 8 * List.length [a, b, c] = 0 := rfl
 unfold sixF
 rw [e2, e3, e1]
 rw [Nat.pow_zero, Nat.mul_one, show sixI _ 4 = _ from sixG 0 ha hb hc]; rfl
theorem six6 {a b c d e f : Nat} (ha : a < 256) (hb : b < 256) (hc : c < 256) (hd : d < 256) (he : e < 256) (hf : f < 256) : sixF [a, b, c, d, e, f] = g3 a b c ++ g3 d e f := by
 have e1 : numF [a, b, c, d, e, f] = ((((((0 * 256 + a) * 256 + b) * 256 + c) * 256 + d) * 256 + e) * 256 + f) := rfl
 have e2 : sizeF (List.length [a, b, c, d, e, f]) = 8 := by show sizeF 6 = 8; decide
 have e3 : 6 * 8 - 8 * List.length [a, b, c, d, e, f] = 0 := rfl
 unfold sixF
 rw [e2, e3, e1]
 rw [Nat.pow_zero, Nat.mul_one, show sixI _ 8 = _ from sixG 4 hd he hf, show sixI _ 4 = _ from sixG 0 ha hb hc]; rfl
theorem sixH4 (X k : Nat) {d : Nat} {out : List Nat} (hd : d < 256) : sixI ((X * 256 + d) * 16, out) (1 + (1 + k)) = sixI (X, b64C (d / 4) :: b64C (d % 4 * 16) :: out) k := by
 have h1 : (X * 256 + d) * 16 / 64 = X * 64 + d / 4 := (Nat.mul_div_mul_right _ 4 (by decide : 0 < 16)).trans (gDv (m := 4) 64 X d (by decide))
 have e1 : (X * 256 + d) * 16 % 64 = d % 4 * 16 := (Nat.mul_mod_mul_right 16 _ 4).trans (by rw [lo4])
 rw [sixI1 _ h1 e1, sixI1 k (qz X (by decide) (lt4 hd)) (qm X (lt4 hd))]
theorem six4 {a b c d : Nat} (ha : a < 256) (hb : b < 256) (hc : c < 256) (hd : d < 256) : sixF [a, b, c, d] = g3 a b c ++ r1 d := by
 have e1 : numF [a, b, c, d] = ((((0 * 256 + a) * 256 + b) * 256 + c) * 256 + d) := rfl
 have e2 : sizeF (List.length [a, b, c, d]) = 6 := by show sizeF 4 = 6; decide
 have e3 : 6 * 6 - 8 * List.length [a, b, c, d] = 4 := rfl
 unfold sixF
 rw [e2, e3, e1]
 rw [show 2 ^ 4 = 16 from rfl, show sixI _ 6 = _ from sixH4 _ 4 hd, show sixI _ 4 = _ from sixG 0 ha hb hc]
 rfl
theorem sixH5 (X k : Nat) {d e : Nat} {out : List Nat} (hd : d < 256) (he : e < 256) : sixI (((X * 256 + d) * 256 + e) * 4, out) (1 + (1 + (1 + k))) = sixI (X, b64C (d / 4) :: b64C (d % 4 * 16 + e / 16) :: b64C (e % 16 * 4) :: out) k := by
 have h1 : ((X * 256 + d) * 256 + e) * 4 / 64 = (X * 256 + d) * 16 + e / 16 := (Nat.mul_div_mul_right _ 16 (by decide : 0 < 4)).trans (gDv (m := 16) 16 _ e (by decide))
 have e1 : ((X * 256 + d) * 256 + e) * 4 % 64 = e % 16 * 4 := (Nat.mul_mod_mul_right 4 _ 16).trans (by rw [lo16])
 have h2 : ((X * 256 + d) * 16 + e / 16) / 64 = X * 64 + d / 4 := (qd (m := 16) 4 _ (by decide) (lt16 he)).trans (gDv (m := 4) 64 _ d (by decide))
 have e2 : ((X * 256 + d) * 16 + e / 16) % 64 = d % 4 * 16 + e / 16 := by rw [← gDv (m := 16) 16 _ e (by decide)]; exact (dg16 _ he).trans (by rw [lo4])
 rw [sixI1 _ h1 e1, sixI1 _ h2 e2, sixI1 k (qz X (by decide) (lt4 hd)) (qm X (lt4 hd))]
theorem six5 {a b c d e : Nat} (ha : a < 256) (hb : b < 256) (hc : c < 256) (hd : d < 256) (he : e < 256) : sixF [a, b, c, d, e] = g3 a b c ++ r2 d e := by
 have e1 : numF [a, b, c, d, e] = (((((0 * 256 + a) * 256 + b) * 256 + c) * 256 + d) * 256 + e) := rfl
 have e2 : sizeF (List.length [a, b, c, d, e]) = 7 := by show sizeF 5 = 7; decide
 have e3 : 6 * 7 - 8 * List.length [a, b, c, d, e] = 2 := rfl
 unfold sixF
 rw [e2, e3, e1]
 rw [show 2 ^ 2 = 4 from rfl, show sixI _ 7 = _ from sixH5 _ 4 hd he, show sixI _ 4 = _ from sixG 0 ha hb hc]
 rfl
theorem encF_sixF : ∀ (os : List Nat), 3 ≤ os.length → os.length ≤ 6 → (∀ o ∈ os, o < 256) → encF os = sixF os
 | [a, b, c], _, _, h => (enc3 (h a (.head _)) (h b (.tail _ (.head _))) (h c (.tail _ (.tail _ (.head _))))).trans (six3 (h a (.head _)) (h b (.tail _ (.head _))) (h c (.tail _ (.tail _ (.head _))))).symm
 | [a, b, c, d], _, _, h => (enc4 (h a (.head _)) (h b (.tail _ (.head _))) (h c (.tail _ (.tail _ (.head _)))) (h d (.tail _ (.tail _ (.tail _ (.head _)))))).trans (six4 (h a (.head _)) (h b (.tail _ (.head _))) (h c (.tail _ (.tail _ (.head _)))) (h d (.tail _ (.tail _ (.tail _ (.head _)))))).symm
 | [a, b, c, d, e], _, _, h => (enc5 (h a (.head _)) (h b (.tail _ (.head _))) (h c (.tail _ (.tail _ (.head _)))) (h d (.tail _ (.tail _ (.tail _ (.head _))))) (h e (.tail _ (.tail _ (.tail _ (.tail _ (.head _))))))).trans (six5 (h a (.head _)) (h b (.tail _ (.head _))) (h c (.tail _ (.tail _ (.head _)))) (h d (.tail _ (.tail _ (.tail _ (.head _))))) (h e (.tail _ (.tail _ (.tail _ (.tail _ (.head _))))))).symm
 | [a, b, c, d, e, f], _, _, h => (enc6 (h a (.head _)) (h b (.tail _ (.head _))) (h c (.tail _ (.tail _ (.head _)))) (h d (.tail _ (.tail _ (.tail _ (.head _))))) (h e (.tail _ (.tail _ (.tail _ (.tail _ (.head _)))))) (h f (.tail _ (.tail _ (.tail _ (.tail _ (.tail _ (.head _)))))))).trans (six6 (h a (.head _)) (h b (.tail _ (.head _))) (h c (.tail _ (.tail _ (.head _)))) (h d (.tail _ (.tail _ (.tail _ (.head _))))) (h e (.tail _ (.tail _ (.tail _ (.tail _ (.head _)))))) (h f (.tail _ (.tail _ (.tail _ (.tail _ (.tail _ (.head _)))))))).symm
 | [], h, _, _ => nomatch h
 | [_], h, _, _ => absurd h (show ¬ 3 ≤ 1 by decide)
 | [_, _], h, _, _ => absurd h (show ¬ 3 ≤ 2 by decide)
 | _ :: _ :: _ :: _ :: _ :: _ :: _ :: l, _, h, _ => absurd h (show ¬ l.length + 7 ≤ 6 from Nat.not_le_of_lt (Nat.lt_of_lt_of_le (by decide : 6 < 7) (Nat.le_add_left 7 l.length)))
end
open PySem PySem.W PyProof.Rows PySem.Calls
theorem fill0 : ∀ (w : World) (h : Heap), (Mine.hd.heap_39 w.params).In h → PySem.Challenge.rw_ny0310_01.row.prog = PySem.Challenge.rw_ny0310_01.row.prog := by k_fill; intros; rfl
local macro_rules | `(tactic| k_room) => `(tactic| ktr_room)
section
open PySem PySem.W PyProof.Rows PySem.Calls
variable {w : World} {mean : ExcName → Option Value} {mg mb : Str → Option Value} {dp un : Nat} {gd : Option (List Code)} {cn : Str} {cs : Scope} {a : Addr} {ccd : Value} {cl : List (Str × Addr)} {outer : List Env} {A₀ : Around} {base h₀ : Heap} {L : Addr} {m : Str → Option Value} {news : List (Addr × Obj)} {s : Shared} {Q E : Value → Shared → Prop}
theorem subst_spec {x y : Str} {tx ty : Tok} (B : Below A₀ base outer h₀) (F : Fr h₀ L s.heap m) (X : (Mine.hd.heap_39 w.params).In h₀) (N : News h₀ L s.heap news) (T : Top vw loose0 mean mg mb h₀) (hk : cs.kind = .function)
  (hd : dp + 9 < recursionLimit) (hu : un + 72 < cLine)
  (hx : x.length ≤ 1) (hy : y.length ≤ 1)
  (hret : ∀ t h' tk', Fr h₀ L h' m → News h₀ L h' news → Q (.int (subF x y) t) { s with heap := h', toks := tk' }) :
  wpAny (model prg w) (ktrTop dp un gd cn cs L a ccd cl outer) (call (.ref 28) [.str x tx, .str y ty]) Q E s := by
 refine wpAny_call ?_
 k_dflt cell_enter
 k_steps
 all_goals refine cb_retI hret ?_ (by k_asm) (by first | k_asm | (refine' cb_drop ?cbNu1 ?cbSu1; (case cbNu1 => assumption); (case cbSu1 => first | exact fun p hp => hp | (repeat (first | exact mem_sub (fun p hp => hp) _ | refine mem_sub ?_ _)))))
 ·exact (if_pos (by assumption)).symm
 ·exact ((if_neg (by simp_all)).trans (if_pos (by assumption))).symm
 ·exact ((if_neg (by simp_all)).trans (if_neg (by simp_all))).symm
end
section
open PySem PySem.W PyProof.Rows PySem.Calls
variable {w : World} {mean : ExcName → Option Value} {mg mb : Str → Option Value} {dp un : Nat} {gd : Option (List Code)} {cn : Str} {cs : Scope} {a : Addr} {ccd : Value} {cl : List (Str × Addr)} {outer : List Env} {A₀ : Around} {base h₀ : Heap} {L : Addr} {m : Str → Option Value} {news : List (Addr × Obj)} {s : Shared} {Q E : Value → Shared → Prop}
theorem ltq {l a q : Nat} (h : l = a - q) (z : (l : Int) ≠ 0) : q < a := by omega
theorem stopq {l a q c : Nat} (h1 : q ≤ c) (b : c ≤ a) (h : l = a - q) (z : (l : Int) = 0) : q = c := by omega
theorem decn {a q n : Nat} (hn : n = a + 1 - q) (h : q < a) : a + 1 - (q + 1) < n := by omega
theorem negq (q : Nat) : -(q : Int) - 1 = -((q + 1 : Nat) : Int) := by omega
structure Hid (p : Prop) : Prop where
 out : p
theorem lev_spec {x y : List Nat} {c : Int} {tx ty tc : Tok} (B : Below A₀ base outer h₀) (F : Fr h₀ L s.heap m) (X : (Mine.hd.heap_39 w.params).In h₀) (N : News h₀ L s.heap news) (T : Top vw loose0 mean mg mb h₀) (hk : cs.kind = .function)
  (hd : dp + 19 < recursionLimit) (hu : un + 172 < cLine)
  (hx : (mkS x).length ≤ 30) (hy : (mkS y).length ≤ 30)
  (hret : ∀ t h' tk', Fr h₀ L h' m → News h₀ L h' news → Q (.int (levF x y c) t) { s with heap := h', toks := tk' }) :
  wpAny (model prg w) (ktrTop dp un gd cn cs L a ccd cl outer) (call (.ref 35) [.str (mkS x) tx, .str (mkS y) ty, .int c tc]) Q E s := by
 refine wpAny_call ?_
 k_dflt cell_enter
 refine wpAny_noRaise ?_
 clear F N
 (with_reducible rename Fr _ _ _ _ => kF)
 replace kF : Fr _ _ _ (fun z => List.lookup z [(Str.ofString "max_cost", Value.int c tc), (Str.ofString "b", Value.str (mkS y) ty), (Str.ofString "a", Value.str (mkS x) tx)]) := kF
 have lx := mkS_len x
 have ly := mkS_len y
 repeat' first | (k_unfold; (try dsimp only)) | ((fail_if_success (with_reducible first | refine WG ?_ | refine FG ?_)); (fail_if_success first | with_reducible show wpAny _ _ (exec (Stmt.Assign _ (Expr.Subscript _ (Expr.Slice none (some (Expr.BoolOp _ _ _)) none _) _) _) _) _ _ _ | with_reducible show wpAny _ _ (exec (Stmt.If (Expr.Compare (Expr.Call _ _ _ _) [CmpOp.Lt] _ _) _ _ _) _) _ _ _); first | ((with_reducible show wpAny _ _ (eval (Expr.Name _ _) _) _ _ _); k_dflt refine' ld (by k_asm) (by first | exact Has.get (by with_reducible assumption) (by exact rfl) | exact rfl) ?_) | ((with_reducible refine execs_cons_gen ?_); intro _; (try dsimp only)) | ((with_reducible refine execs_nil_gen ?_); intro _; (try dsimp only)) | walk1 | (dsimp only; walk1))
 ·rename (mkS x == mkS y) = true => e
  rw [mkS_beq, decide_eq_true_eq] at e
  exact cb_retI hret (by rw [levF, if_pos e]) (by k_asm) (by first | k_asm | (refine' cb_drop ?cbNu1 ?cbSu1; (case cbNu1 => assumption); (case cbSu1 => first | exact fun p hp => hp | (repeat (first | exact mem_sub (fun p hp => hp) _ | refine mem_sub ?_ _)))))
 rename (mkS x == mkS y) = false => hne
 rw [mkS_beq, decide_eq_false_iff_not] at hne
 (with_reducible rename Fr _ _ _ _ => kF); (with_reducible rename News _ _ _ _ => kN)
 refine letX3_2_4io (fun n m₁ news₁ => ∃ (p : Nat) (t : Tok), p ≤ cpl x y ∧ news = news₁ ∧ n = x.length + 1 - p ∧ m₁ = upd (fun z => List.lookup z [(Str.ofString "max_cost", Value.int c tc), (Str.ofString "b", Value.str (mkS y) ty), (Str.ofString "a", Value.str (mkS x) tx)]) (Str.ofString "pre") (.int p t) : Nat → FMap → Ledger → Prop) (fun _ _ _ => .rfl) fun J hJi hJo => ?_
 refine letX2_1_2io (fun m₁ news₁ => ∃ (t : Tok), news = news₁ ∧ m₁ = upd (fun z => List.lookup z [(Str.ofString "max_cost", Value.int c tc), (Str.ofString "b", Value.str (mkS y) ty), (Str.ofString "a", Value.str (mkS x) tx)]) (Str.ofString "pre") (.int (cpl x y : Nat) t) : FMap → Ledger → Prop) (fun _ _ => .rfl) fun P hPi hPo => ?_
 refine While_cut J P (n₀ := x.length + 1) kF kN (by exact hJi _ _ _ (0) _ (Nat.zero_le _) (rfl) (rfl) (rfl)) ?_ ?_
 ·intro n m₁ news₁ h₁ tk₁ F₁ N₁ hj
  refine hJo _ _ _ hj _ fun p t h1 ej1 hn ej2 => ?_
  clear hj
  subst ej1
  subst ej2
  clear kF kN
  have d1 := mkS_len (x.drop p)
  have d2 := mkS_len (y.drop p)
  rw [List.length_drop] at d1 d2
  have px := Nat.le_trans h1 (cpl_le_left x y)
  have py := Nat.le_trans h1 (cpl_le_right x y)
  replace h1 := Hid.mk h1
  replace hn := Hid.mk hn
  repeat' first | (k_unfold; (try dsimp only)) | ((fail_if_success (with_reducible first | refine WG ?_ | refine FG ?_)); (fail_if_success first | with_reducible show wpAny _ _ (exec (Stmt.Assign _ (Expr.Subscript _ (Expr.Slice none (some (Expr.BoolOp _ _ _)) none _) _) _) _) _ _ _ | with_reducible show wpAny _ _ (exec (Stmt.If (Expr.Compare (Expr.Call _ _ _ _) [CmpOp.Lt] _ _) _ _ _) _) _ _ _); first | (first | with_reducible ((with_reducible show wpAny _ _ (subscriptTail _ _ (Value.str _ _) (Value.ref _)) _ _ _); ((with_reducible rename Fr _ _ _ _ => zzF'); (with_reducible rename News _ _ _ _ => zzN'); (first | (refine sl_nn (hsz := (by size_fits)) (s := ⟨_, _, _, _, _⟩) zzF' zzN' ?_) | (refine sl_sn (hsz := (by size_fits)) (s := ⟨_, _, _, _, _⟩) rfl (by omega) zzF' zzN' ?_) | (refine sl_neg (hsz := (by size_fits)) (s := ⟨_, _, _, _, _⟩) rfl (by omega) (by omega) zzF' zzN' ?_)); intro _ _ _ _ _)) | ((with_reducible show wpAny _ _ (subscriptTail _ _ (Value.str _ _) (Value.ref _)) _ _ _); ((with_reducible rename Fr _ _ _ _ => zzF'); (with_reducible rename News _ _ _ _ => zzN'); (first | (refine sl_nn (hsz := (by size_fits)) (s := ⟨_, _, _, _, _⟩) zzF' zzN' ?_) | (refine sl_sn (hsz := (by size_fits)) (s := ⟨_, _, _, _, _⟩) rfl (by omega) zzF' zzN' ?_) | (refine sl_neg (hsz := (by size_fits)) (s := ⟨_, _, _, _, _⟩) rfl (by omega) (by omega) zzF' zzN' ?_)); intro _ _ _ _ _))) | ((with_reducible show wpAny _ _ (loadName _ _) _ _ _); k_dflt refine' ldn (by k_asm) (by first | exact Has.get (by with_reducible assumption) (by exact rfl) | exact rfl) ?_) | ((with_reducible show wpAny _ _ (eval (Expr.Name _ _) _) _ _ _); k_dflt refine' ld (by k_asm) (by first | exact Has.get (by with_reducible assumption) (by exact rfl) | exact rfl) ?_) | ((with_reducible refine execs_cons_gen ?_); intro _; (try dsimp only)) | ((with_reducible refine execs_nil_gen ?_); intro _; (try dsimp only)) | walk1 | (dsimp only; walk1))
  ·rename (Txt.item (mkS x) _ == Txt.item (mkS y) _) = true => e
   have q1 : p < x.length := ltq d1 (by assumption)
   have q2 : p < y.length := ltq d2 (by assumption)
   rw [item_pos q1, item_pos q2, mkS_beq, decide_eq_true_eq] at e
   have e' : x.getD p 0 = y.getD p 0 := by simpa using e
   exact WPost.next (n' := x.length + 1 - (p + 1)) (by k_asm) (by k_asm) (decn hn.out q1) (by exact hJi _ _ _ (p + 1) _ (cpl_step h1.out q1 q2 e') (rfl) (rfl) (upd_upd))
  ·rename (Txt.item (mkS x) _ == Txt.item (mkS y) _) = false => e
   have q1 : p < x.length := ltq d1 (by assumption)
   have q2 : p < y.length := ltq d2 (by assumption)
   rw [item_pos q1, item_pos q2, mkS_beq, decide_eq_false_iff_not] at e
   have : p = cpl x y := by
    rcases Nat.lt_or_ge p (cpl x y) with h | h
    ·exact absurd (by rw [(cpl_at h).2.2]) e
    ·exact Nat.le_antisymm h1.out h
   exact Cut.mk (by k_asm) (by k_asm) (by exact hPi _ _ _ (rfl) (by rw [← this]))
  ·have : p = cpl x y := stopq h1.out (cpl_le_right x y) d2 (by assumption)
   exact Cut.mk (by k_asm) (by k_asm) (by exact hPi _ _ _ (rfl) (by rw [← this]))
  ·have : p = cpl x y := stopq h1.out (cpl_le_left x y) d1 (by assumption)
   exact Cut.mk (by k_asm) (by k_asm) (by exact hPi _ _ _ (rfl) (by rw [← this]))
 ·intro m₁ news₁ h₁ tk₁ F₁ N₁ hp
  refine hPo _ _ hp _ fun t ej3 ej4 => ?_
  clear hp
  subst ej3
  subst ej4
  clear kF kN hJi hJo hPi hPo J P
  have g1 := cpl_le_left x y
  have g2 := cpl_le_right x y
  repeat' first | (k_unfold; (try dsimp only)) | ((fail_if_success (with_reducible first | refine WG ?_ | refine FG ?_)); (fail_if_success first | with_reducible show wpAny _ _ (exec (Stmt.Assign _ (Expr.Subscript _ (Expr.Slice none (some (Expr.BoolOp _ _ _)) none _) _) _) _) _ _ _ | with_reducible show wpAny _ _ (exec (Stmt.If (Expr.Compare (Expr.Call _ _ _ _) [CmpOp.Lt] _ _) _ _ _) _) _ _ _); first | (first | with_reducible ((with_reducible show wpAny _ _ (subscriptTail _ _ (Value.str _ _) (Value.ref _)) _ _ _); ((with_reducible rename Fr _ _ _ _ => zzF'); (with_reducible rename News _ _ _ _ => zzN'); (first | (refine sl_nn (hsz := (by size_fits)) (s := ⟨_, _, _, _, _⟩) zzF' zzN' ?_) | (refine sl_sn (hsz := (by size_fits)) (s := ⟨_, _, _, _, _⟩) rfl (by omega) zzF' zzN' ?_) | (refine sl_neg (hsz := (by size_fits)) (s := ⟨_, _, _, _, _⟩) rfl (by omega) (by omega) zzF' zzN' ?_)); intro _ _ _ _ _)) | ((with_reducible show wpAny _ _ (subscriptTail _ _ (Value.str _ _) (Value.ref _)) _ _ _); ((with_reducible rename Fr _ _ _ _ => zzF'); (with_reducible rename News _ _ _ _ => zzN'); (first | (refine sl_nn (hsz := (by size_fits)) (s := ⟨_, _, _, _, _⟩) zzF' zzN' ?_) | (refine sl_sn (hsz := (by size_fits)) (s := ⟨_, _, _, _, _⟩) rfl (by omega) zzF' zzN' ?_) | (refine sl_neg (hsz := (by size_fits)) (s := ⟨_, _, _, _, _⟩) rfl (by omega) (by omega) zzF' zzN' ?_)); intro _ _ _ _ _))) | ((with_reducible show wpAny _ _ (eval (Expr.Name _ _) _) _ _ _); k_dflt refine' ld (by k_asm) (by first | exact Has.get (by with_reducible assumption) (by exact rfl) | exact rfl) ?_) | ((with_reducible refine execs_cons_gen ?_); intro _; (try dsimp only)) | walk1 | (dsimp only; walk1))
  (with_reducible rename Fr _ _ _ _ => kF); (with_reducible rename News _ _ _ _ => kN)
  generalize hA : x.drop (cpl x y) = A1 at kF
  generalize hB : y.drop (cpl x y) = B1 at kF
  have lA := mkS_len A1
  have lB := mkS_len B1
  have lA' : A1.length ≤ 30 := by rw [← hA, List.length_drop]; omega
  have lB' : B1.length ≤ 30 := by rw [← hB, List.length_drop]; omega
  clear lx ly g1 g2 hx hy
  refine letX3_4_7io (fun n m₁ news₁ => ∃ (q : Nat) (t ta tb : Tok), q ≤ cpl A1.reverse B1.reverse ∧ news = news₁ ∧ n = A1.length + 1 - q ∧ Has m₁ (Str.ofString "a") (.str (mkS A1) ta) ∧ Has m₁ (Str.ofString "b") (.str (mkS B1) tb) ∧ Has m₁ (Str.ofString "max_cost") (.int c tc) ∧ Has m₁ (Str.ofString "post") (.int (-(q : Int)) t) : Nat → FMap → Ledger → Prop) (fun _ _ _ => .rfl) fun J hJi hJo => ?_
  refine letX2_3_5eo (fun m₁ news₁ => ∃ (t ta tb : Tok), news = news₁ ∧ Has m₁ (Str.ofString "a") (.str (mkS A1) ta) ∧ Has m₁ (Str.ofString "b") (.str (mkS B1) tb) ∧ Has m₁ (Str.ofString "max_cost") (.int c tc) ∧ Has m₁ (Str.ofString "post") (.int (-(cpl A1.reverse B1.reverse : Nat) : Int) t) : FMap → Ledger → Prop) (fun _ _ => .rfl) fun P hP hPo => ?_
  refine While_cut J P (n₀ := A1.length + 1) kF kN (by exact hJi _ _ _ (0) _ _ _ (Nat.zero_le _) (rfl) (rfl) (⟨rfl⟩) (⟨rfl⟩) (⟨rfl⟩) (⟨rfl⟩)) ?_ ?_
  ·intro n m₁ news₁ h₁ tk₁ F₁ N₁ hj
   refine hJo _ _ _ hj _ fun q t ta tb h1 ej5 hn m1 m2 m3 m4 => ?_
   clear hj
   subst ej5
   clear kF kN
   replace h1 := Hid.mk h1
   replace hn := Hid.mk hn
   have b1 := Hid.mk (cpl_le_left A1.reverse B1.reverse)
   have b2 := Hid.mk (cpl_le_right A1.reverse B1.reverse)
   rw [List.length_reverse] at b1 b2
   have qa := Nat.le_trans h1.out b1.out
   have qb := Nat.le_trans h1.out b2.out
   by_cases hq : q = 0
   ·subst hq
    repeat' first | (k_unfold; (try dsimp only)) | ((fail_if_success (with_reducible first | refine WG ?_ | refine FG ?_)); (fail_if_success first | with_reducible show wpAny _ _ (exec (Stmt.Assign _ (Expr.Subscript _ (Expr.Slice none (some (Expr.BoolOp _ _ _)) none _) _) _) _) _ _ _ | with_reducible show wpAny _ _ (exec (Stmt.If (Expr.Compare (Expr.Call _ _ _ _) [CmpOp.Lt] _ _) _ _ _) _) _ _ _); first | (first | with_reducible ((with_reducible show wpAny _ _ (subscriptTail _ _ (Value.str _ _) (Value.ref _)) _ _ _); ((with_reducible rename Fr _ _ _ _ => zzF'); (with_reducible rename News _ _ _ _ => zzN'); (first | (refine sl_nn (hsz := (by size_fits)) (s := ⟨_, _, _, _, _⟩) zzF' zzN' ?_) | (refine sl_sn (hsz := (by size_fits)) (s := ⟨_, _, _, _, _⟩) rfl (by omega) zzF' zzN' ?_) | (refine sl_neg (hsz := (by size_fits)) (s := ⟨_, _, _, _, _⟩) rfl (by omega) (by omega) zzF' zzN' ?_)); intro _ _ _ _ _)) | ((with_reducible show wpAny _ _ (subscriptTail _ _ (Value.str _ _) (Value.ref _)) _ _ _); ((with_reducible rename Fr _ _ _ _ => zzF'); (with_reducible rename News _ _ _ _ => zzN'); (first | (refine sl_nn (hsz := (by size_fits)) (s := ⟨_, _, _, _, _⟩) zzF' zzN' ?_) | (refine sl_sn (hsz := (by size_fits)) (s := ⟨_, _, _, _, _⟩) rfl (by omega) zzF' zzN' ?_) | (refine sl_neg (hsz := (by size_fits)) (s := ⟨_, _, _, _, _⟩) rfl (by omega) (by omega) zzF' zzN' ?_)); intro _ _ _ _ _))) | ((with_reducible show wpAny _ _ (loadName _ _) _ _ _); k_dflt refine' ldn (by k_asm) (by first | exact Has.get (by with_reducible assumption) (by exact rfl) | exact rfl) ?_) | ((with_reducible show wpAny _ _ (eval (Expr.Name _ _) _) _ _ _); k_dflt refine' ld (by k_asm) (by first | exact Has.get (by with_reducible assumption) (by exact rfl) | exact rfl) ?_) | ((with_reducible refine execs_cons_gen ?_); intro _; (try dsimp only)) | ((with_reducible refine execs_nil_gen ?_); intro _; (try dsimp only)) | walk1 | (dsimp only; walk1))
    ·have q1 : 0 < A1.length := ltq (q := 0) lA (by assumption)
     have q2 : 0 < B1.length := ltq (q := 0) lB (by assumption)
     rename (Txt.item (mkS A1) _ == Txt.item (mkS B1) _) = true => e
     rw [item_neg q1, item_neg q2] at e
     exact WPost.next (n' := A1.length + 1 - (0 + 1)) (by k_asm) (by k_asm) (decn hn.out q1) (by exact hJi _ _ _ (0 + 1) _ _ _ (rev_step h1.out q1 q2 e) (rfl) (rfl) (⟨m1.out⟩) (⟨m2.out⟩) (⟨m3.out⟩) (⟨rfl⟩))
    ·have q1 : 0 < A1.length := ltq (q := 0) lA (by assumption)
     have q2 : 0 < B1.length := ltq (q := 0) lB (by assumption)
     rename (Txt.item (mkS A1) _ == Txt.item (mkS B1) _) = false => e
     rw [item_neg q1, item_neg q2] at e
     have h0 := rev_stop h1.out (fun _ _ => e)
     exact Cut.mk (by k_asm) (by k_asm) (by rw [hP, ← h0]; exact ⟨_, _, _, rfl, m1, m2, m3, m4⟩)
    ·have h0 : 0 = cpl A1.reverse B1.reverse := stopq (q := 0) h1.out b2.out lB (by assumption)
     exact Cut.mk (by k_asm) (by k_asm) (by rw [hP, ← h0]; exact ⟨_, _, _, rfl, m1, m2, m3, m4⟩)
    ·have h0 : 0 = cpl A1.reverse B1.reverse := stopq (q := 0) h1.out b1.out lA (by assumption)
     exact Cut.mk (by k_asm) (by k_asm) (by rw [hP, ← h0]; exact ⟨_, _, _, rfl, m1, m2, m3, m4⟩)
   ·have hl1 : (mkS (A1.take (A1.length - q))).length = A1.length - q := by rw [mkS_len, List.length_take, Nat.min_eq_left (Nat.sub_le _ _)]
    have hl2 : (mkS (B1.take (B1.length - q))).length = B1.length - q := by rw [mkS_len, List.length_take, Nat.min_eq_left (Nat.sub_le _ _)]
    have hq' : ¬ (-(q : Int) = 0) := by omega
    repeat' first | (k_unfold; (try dsimp only)) | ((fail_if_success (with_reducible first | refine WG ?_ | refine FG ?_)); (fail_if_success first | with_reducible show wpAny _ _ (exec (Stmt.Assign _ (Expr.Subscript _ (Expr.Slice none (some (Expr.BoolOp _ _ _)) none _) _) _) _) _ _ _ | with_reducible show wpAny _ _ (exec (Stmt.If (Expr.Compare (Expr.Call _ _ _ _) [CmpOp.Lt] _ _) _ _ _) _) _ _ _); first | (first | with_reducible ((with_reducible show wpAny _ _ (subscriptTail _ _ (Value.str _ _) (Value.ref _)) _ _ _); ((with_reducible rename Fr _ _ _ _ => zzF'); (with_reducible rename News _ _ _ _ => zzN'); (first | (refine sl_nn (hsz := (by size_fits)) (s := ⟨_, _, _, _, _⟩) zzF' zzN' ?_) | (refine sl_sn (hsz := (by size_fits)) (s := ⟨_, _, _, _, _⟩) rfl (by omega) zzF' zzN' ?_) | (refine sl_neg (hsz := (by size_fits)) (s := ⟨_, _, _, _, _⟩) rfl (by omega) (by omega) zzF' zzN' ?_)); intro _ _ _ _ _)) | ((with_reducible show wpAny _ _ (subscriptTail _ _ (Value.str _ _) (Value.ref _)) _ _ _); ((with_reducible rename Fr _ _ _ _ => zzF'); (with_reducible rename News _ _ _ _ => zzN'); (first | (refine sl_nn (hsz := (by size_fits)) (s := ⟨_, _, _, _, _⟩) zzF' zzN' ?_) | (refine sl_sn (hsz := (by size_fits)) (s := ⟨_, _, _, _, _⟩) rfl (by omega) zzF' zzN' ?_) | (refine sl_neg (hsz := (by size_fits)) (s := ⟨_, _, _, _, _⟩) rfl (by omega) (by omega) zzF' zzN' ?_)); intro _ _ _ _ _))) | ((with_reducible show wpAny _ _ (loadName _ _) _ _ _); k_dflt refine' ldn (by k_asm) (by first | exact Has.get (by with_reducible assumption) (by exact rfl) | exact rfl) ?_) | ((with_reducible show wpAny _ _ (eval (Expr.Name _ _) _) _ _ _); k_dflt refine' ld (by k_asm) (by first | exact Has.get (by with_reducible assumption) (by exact rfl) | exact rfl) ?_) | ((with_reducible refine execs_cons_gen ?_); intro _; (try dsimp only)) | ((with_reducible refine execs_nil_gen ?_); intro _; (try dsimp only)) | walk1 | (dsimp only; walk1))
    all_goals (try (exact absurd (by assumption) hq'))
    ·have q1 : q < A1.length := ltq hl1 (by assumption)
     have q2 : q < B1.length := ltq hl2 (by assumption)
     rename (Txt.item (mkS A1) _ == Txt.item (mkS B1) _) = true => e
     rw [item_neg q1, item_neg q2] at e
     exact WPost.next (n' := A1.length + 1 - (q + 1)) (by k_asm) (by k_asm) (decn hn.out q1) (by exact hJi _ _ _ (q + 1) _ _ _ (rev_step h1.out q1 q2 e) (rfl) (rfl) (⟨m1.out⟩) (⟨m2.out⟩) (⟨m3.out⟩) (⟨congrArg (fun z => some (Value.int z _)) (negq q)⟩))
    ·have q1 : q < A1.length := ltq hl1 (by assumption)
     have q2 : q < B1.length := ltq hl2 (by assumption)
     rename (Txt.item (mkS A1) _ == Txt.item (mkS B1) _) = false => e
     rw [item_neg q1, item_neg q2] at e
     have h0 := rev_stop h1.out (fun _ _ => e)
     exact Cut.mk (by k_asm) (by k_asm) (by rw [hP, ← h0]; exact ⟨_, _, _, rfl, m1, m2, m3, m4⟩)
    ·have h0 : q = cpl A1.reverse B1.reverse := stopq h1.out b2.out hl2 (by assumption)
     exact Cut.mk (by k_asm) (by k_asm) (by rw [hP, ← h0]; exact ⟨_, _, _, rfl, m1, m2, m3, m4⟩)
    ·have h0 : q = cpl A1.reverse B1.reverse := stopq h1.out b1.out hl1 (by assumption)
     exact Cut.mk (by k_asm) (by k_asm) (by rw [hP, ← h0]; exact ⟨_, _, _, rfl, m1, m2, m3, m4⟩)
  ·intro m₁ news₁ h₁ tk₁ F₁ N₁ hp
   refine hPo _ _ hp _ fun t ta tb ej6 m1 m2 m3 m4 => ?_
   clear hp
   subst ej6
   clear kF kN hJi hJo hP hPo J P
   have b1 := cpl_le_left A1.reverse B1.reverse
   have b2 := cpl_le_right A1.reverse B1.reverse
   rw [List.length_reverse] at b1 b2
   have tA : trimR A1 B1 = A1.take (A1.length - cpl A1.reverse B1.reverse) := rfl
   have tB : trimR B1 A1 = B1.take (B1.length - cpl A1.reverse B1.reverse) := by rw [trimR, cpl_comm]
   generalize hq : cpl A1.reverse B1.reverse = q at *
   repeat' first | (k_unfold; (try dsimp only)) | ((fail_if_success (with_reducible first | refine WG ?_ | refine FG ?_)); (fail_if_success first | with_reducible show wpAny _ _ (exec (Stmt.Assign _ (Expr.Subscript _ (Expr.Slice none (some (Expr.BoolOp _ _ _)) none _) _) _) _) _ _ _ | with_reducible show wpAny _ _ (exec (Stmt.If (Expr.Compare (Expr.Call _ _ _ _) [CmpOp.Lt] _ _) _ _ _) _) _ _ _); first | ((with_reducible refine execs_cons_gen ?_); intro _; (try dsimp only)) | walk1 | (dsimp only; walk1))
   (with_reducible rename Fr _ _ _ _ => kF); (with_reducible rename News _ _ _ _ => kN)
   refine letX2_3_5io (fun m₁ news₁ => ∃ (t ta tb : Tok), news = news₁ ∧ Has m₁ (Str.ofString "a") (.str (mkS (trimR A1 B1)) ta) ∧ Has m₁ (Str.ofString "b") (.str (mkS B1) tb) ∧ Has m₁ (Str.ofString "max_cost") (.int c tc) ∧ Has m₁ (Str.ofString "post") (.int (-(q : Int)) t) : FMap → Ledger → Prop) (fun _ _ => .rfl) fun P hPi hPo => ?_
   refine Stmt_cut P kF ?_ ?_
   ·by_cases h0 : q = 0
    ·walk1
     repeat' first | (k_unfold; (try dsimp only)) | ((fail_if_success (with_reducible first | refine WG ?_ | refine FG ?_)); (fail_if_success first | with_reducible show wpAny _ _ (exec (Stmt.Assign _ (Expr.Subscript _ (Expr.Slice none (some (Expr.BoolOp _ _ _)) none _) _) _) _) _ _ _ | with_reducible show wpAny _ _ (exec (Stmt.If (Expr.Compare (Expr.Call _ _ _ _) [CmpOp.Lt] _ _) _ _ _) _) _ _ _); first | (first | with_reducible ((with_reducible show wpAny _ _ (subscriptTail _ _ (Value.str _ _) (Value.ref _)) _ _ _); ((with_reducible rename Fr _ _ _ _ => zzF'); (with_reducible rename News _ _ _ _ => zzN'); (first | (refine sl_nn (hsz := (by size_fits)) (s := ⟨_, _, _, _, _⟩) zzF' zzN' ?_) | (refine sl_sn (hsz := (by size_fits)) (s := ⟨_, _, _, _, _⟩) rfl (by omega) zzF' zzN' ?_) | (refine sl_neg (hsz := (by size_fits)) (s := ⟨_, _, _, _, _⟩) rfl (by omega) (by omega) zzF' zzN' ?_)); intro _ _ _ _ _)) | ((with_reducible show wpAny _ _ (subscriptTail _ _ (Value.str _ _) (Value.ref _)) _ _ _); ((with_reducible rename Fr _ _ _ _ => zzF'); (with_reducible rename News _ _ _ _ => zzN'); (first | (refine sl_nn (hsz := (by size_fits)) (s := ⟨_, _, _, _, _⟩) zzF' zzN' ?_) | (refine sl_sn (hsz := (by size_fits)) (s := ⟨_, _, _, _, _⟩) rfl (by omega) zzF' zzN' ?_) | (refine sl_neg (hsz := (by size_fits)) (s := ⟨_, _, _, _, _⟩) rfl (by omega) (by omega) zzF' zzN' ?_)); intro _ _ _ _ _))) | ((with_reducible show wpAny _ _ (eval (Expr.Name _ _) _) _ _ _); k_dflt refine' ld (by k_asm) (by first | exact Has.get (by with_reducible assumption) (by exact rfl) | exact rfl) ?_) | walk1 | (dsimp only; walk1))
     all_goals (try (exfalso; omega))
     exact Cut.mk (by k_asm) (by k_asm) (by exact hPi _ _ _ _ _ (rfl) (⟨by rw [tA, h0, Nat.sub_zero, List.take_length]; rfl⟩) (⟨m2.out⟩) (⟨m3.out⟩) (⟨m4.out⟩))
    ·walk1
     repeat' first | (k_unfold; (try dsimp only)) | ((fail_if_success (with_reducible first | refine WG ?_ | refine FG ?_)); (fail_if_success first | with_reducible show wpAny _ _ (exec (Stmt.Assign _ (Expr.Subscript _ (Expr.Slice none (some (Expr.BoolOp _ _ _)) none _) _) _) _) _ _ _ | with_reducible show wpAny _ _ (exec (Stmt.If (Expr.Compare (Expr.Call _ _ _ _) [CmpOp.Lt] _ _) _ _ _) _) _ _ _); first | (first | with_reducible ((with_reducible show wpAny _ _ (subscriptTail _ _ (Value.str _ _) (Value.ref _)) _ _ _); ((with_reducible rename Fr _ _ _ _ => zzF'); (with_reducible rename News _ _ _ _ => zzN'); (first | (refine sl_nn (hsz := (by size_fits)) (s := ⟨_, _, _, _, _⟩) zzF' zzN' ?_) | (refine sl_sn (hsz := (by size_fits)) (s := ⟨_, _, _, _, _⟩) rfl (by omega) zzF' zzN' ?_) | (refine sl_neg (hsz := (by size_fits)) (s := ⟨_, _, _, _, _⟩) rfl (by omega) (by omega) zzF' zzN' ?_)); intro _ _ _ _ _)) | ((with_reducible show wpAny _ _ (subscriptTail _ _ (Value.str _ _) (Value.ref _)) _ _ _); ((with_reducible rename Fr _ _ _ _ => zzF'); (with_reducible rename News _ _ _ _ => zzN'); (first | (refine sl_nn (hsz := (by size_fits)) (s := ⟨_, _, _, _, _⟩) zzF' zzN' ?_) | (refine sl_sn (hsz := (by size_fits)) (s := ⟨_, _, _, _, _⟩) rfl (by omega) zzF' zzN' ?_) | (refine sl_neg (hsz := (by size_fits)) (s := ⟨_, _, _, _, _⟩) rfl (by omega) (by omega) zzF' zzN' ?_)); intro _ _ _ _ _))) | ((with_reducible show wpAny _ _ (eval (Expr.Name _ _) _) _ _ _); k_dflt refine' ld (by k_asm) (by first | exact Has.get (by with_reducible assumption) (by exact rfl) | exact rfl) ?_) | walk1 | (dsimp only; walk1))
     all_goals (try (exfalso; omega))
     exact Cut.mk (by k_asm) (by k_asm) (by exact hPi _ _ _ _ _ (rfl) (⟨by rw [tA]; rfl⟩) (⟨m2.out⟩) (⟨m3.out⟩) (⟨m4.out⟩))
   intro m₁ news₁ h₁ tk₁ F₁ N₁ hp
   refine hPo _ _ hp _ fun t ta tb ej7 m1 m2 m3 m4 => ?_
   clear hp
   subst ej7
   clear kF kN hPi hPo P
   repeat' first | (k_unfold; (try dsimp only)) | ((fail_if_success (with_reducible first | refine WG ?_ | refine FG ?_)); (fail_if_success first | with_reducible show wpAny _ _ (exec (Stmt.Assign _ (Expr.Subscript _ (Expr.Slice none (some (Expr.BoolOp _ _ _)) none _) _) _) _) _ _ _ | with_reducible show wpAny _ _ (exec (Stmt.If (Expr.Compare (Expr.Call _ _ _ _) [CmpOp.Lt] _ _) _ _ _) _) _ _ _); first | ((with_reducible refine execs_cons_gen ?_); intro _; (try dsimp only)) | walk1 | (dsimp only; walk1))
   (with_reducible rename Fr _ _ _ _ => kF); (with_reducible rename News _ _ _ _ => kN)
   refine letX2_2_4io (fun m₁ news₁ => ∃ (ta tb : Tok), news = news₁ ∧ Has m₁ (Str.ofString "a") (.str (mkS (trimR A1 B1)) ta) ∧ Has m₁ (Str.ofString "b") (.str (mkS (trimR B1 A1)) tb) ∧ Has m₁ (Str.ofString "max_cost") (.int c tc) : FMap → Ledger → Prop) (fun _ _ => .rfl) fun P hPi hPo => ?_
   refine Stmt_cut P kF ?_ ?_
   ·by_cases h0 : q = 0
    ·walk1
     repeat' first | (k_unfold; (try dsimp only)) | ((fail_if_success (with_reducible first | refine WG ?_ | refine FG ?_)); (fail_if_success first | with_reducible show wpAny _ _ (exec (Stmt.Assign _ (Expr.Subscript _ (Expr.Slice none (some (Expr.BoolOp _ _ _)) none _) _) _) _) _ _ _ | with_reducible show wpAny _ _ (exec (Stmt.If (Expr.Compare (Expr.Call _ _ _ _) [CmpOp.Lt] _ _) _ _ _) _) _ _ _); first | (first | with_reducible ((with_reducible show wpAny _ _ (subscriptTail _ _ (Value.str _ _) (Value.ref _)) _ _ _); ((with_reducible rename Fr _ _ _ _ => zzF'); (with_reducible rename News _ _ _ _ => zzN'); (first | (refine sl_nn (hsz := (by size_fits)) (s := ⟨_, _, _, _, _⟩) zzF' zzN' ?_) | (refine sl_sn (hsz := (by size_fits)) (s := ⟨_, _, _, _, _⟩) rfl (by omega) zzF' zzN' ?_) | (refine sl_neg (hsz := (by size_fits)) (s := ⟨_, _, _, _, _⟩) rfl (by omega) (by omega) zzF' zzN' ?_)); intro _ _ _ _ _)) | ((with_reducible show wpAny _ _ (subscriptTail _ _ (Value.str _ _) (Value.ref _)) _ _ _); ((with_reducible rename Fr _ _ _ _ => zzF'); (with_reducible rename News _ _ _ _ => zzN'); (first | (refine sl_nn (hsz := (by size_fits)) (s := ⟨_, _, _, _, _⟩) zzF' zzN' ?_) | (refine sl_sn (hsz := (by size_fits)) (s := ⟨_, _, _, _, _⟩) rfl (by omega) zzF' zzN' ?_) | (refine sl_neg (hsz := (by size_fits)) (s := ⟨_, _, _, _, _⟩) rfl (by omega) (by omega) zzF' zzN' ?_)); intro _ _ _ _ _))) | ((with_reducible show wpAny _ _ (eval (Expr.Name _ _) _) _ _ _); k_dflt refine' ld (by k_asm) (by first | exact Has.get (by with_reducible assumption) (by exact rfl) | exact rfl) ?_) | walk1 | (dsimp only; walk1))
     all_goals (try (exfalso; omega))
     exact Cut.mk (by k_asm) (by k_asm) (by exact hPi _ _ _ _ (rfl) (⟨m1.out⟩) (⟨by rw [tB, h0, Nat.sub_zero, List.take_length]; rfl⟩) (⟨m3.out⟩))
    ·walk1
     repeat' first | (k_unfold; (try dsimp only)) | ((fail_if_success (with_reducible first | refine WG ?_ | refine FG ?_)); (fail_if_success first | with_reducible show wpAny _ _ (exec (Stmt.Assign _ (Expr.Subscript _ (Expr.Slice none (some (Expr.BoolOp _ _ _)) none _) _) _) _) _ _ _ | with_reducible show wpAny _ _ (exec (Stmt.If (Expr.Compare (Expr.Call _ _ _ _) [CmpOp.Lt] _ _) _ _ _) _) _ _ _); first | (first | with_reducible ((with_reducible show wpAny _ _ (subscriptTail _ _ (Value.str _ _) (Value.ref _)) _ _ _); ((with_reducible rename Fr _ _ _ _ => zzF'); (with_reducible rename News _ _ _ _ => zzN'); (first | (refine sl_nn (hsz := (by size_fits)) (s := ⟨_, _, _, _, _⟩) zzF' zzN' ?_) | (refine sl_sn (hsz := (by size_fits)) (s := ⟨_, _, _, _, _⟩) rfl (by omega) zzF' zzN' ?_) | (refine sl_neg (hsz := (by size_fits)) (s := ⟨_, _, _, _, _⟩) rfl (by omega) (by omega) zzF' zzN' ?_)); intro _ _ _ _ _)) | ((with_reducible show wpAny _ _ (subscriptTail _ _ (Value.str _ _) (Value.ref _)) _ _ _); ((with_reducible rename Fr _ _ _ _ => zzF'); (with_reducible rename News _ _ _ _ => zzN'); (first | (refine sl_nn (hsz := (by size_fits)) (s := ⟨_, _, _, _, _⟩) zzF' zzN' ?_) | (refine sl_sn (hsz := (by size_fits)) (s := ⟨_, _, _, _, _⟩) rfl (by omega) zzF' zzN' ?_) | (refine sl_neg (hsz := (by size_fits)) (s := ⟨_, _, _, _, _⟩) rfl (by omega) (by omega) zzF' zzN' ?_)); intro _ _ _ _ _))) | ((with_reducible show wpAny _ _ (eval (Expr.Name _ _) _) _ _ _); k_dflt refine' ld (by k_asm) (by first | exact Has.get (by with_reducible assumption) (by exact rfl) | exact rfl) ?_) | walk1 | (dsimp only; walk1))
     all_goals (try (exfalso; omega))
     exact Cut.mk (by k_asm) (by k_asm) (by exact hPi _ _ _ _ (rfl) (⟨m1.out⟩) (⟨by rw [tB]; rfl⟩) (⟨m3.out⟩))
   intro m₁ news₁ h₁ tk₁ F₁ N₁ hp
   refine hPo _ _ hp _ fun ta tb ej8 m1 m2 m3 => ?_
   clear hp
   subst ej8
   clear kF kN hPi hPo P m4 t
   have lA2 : (trimR A1 B1).length ≤ 30 := by rw [tA, List.length_take]; omega
   have lB2 : (trimR B1 A1).length ≤ 30 := by rw [tB, List.length_take]; omega
   generalize hA2 : trimR A1 B1 = A2 at *
   generalize hB2 : trimR B1 A1 = B2 at *
   have lenA := mkS_len A2
   have lenB := mkS_len B2
   have hlev : levF x y c = coreF A2 B2 c := by rw [levF, if_neg hne, hA, hB, hA2, hB2]
   clear lA lB lA' lB' b1 b2 hne hA hB hq
   repeat' first | (k_unfold; (try dsimp only)) | ((fail_if_success (with_reducible first | refine WG ?_ | refine FG ?_)); (fail_if_success first | with_reducible show wpAny _ _ (exec (Stmt.Assign _ (Expr.Subscript _ (Expr.Slice none (some (Expr.BoolOp _ _ _)) none _) _) _) _) _ _ _ | with_reducible show wpAny _ _ (exec (Stmt.If (Expr.Compare (Expr.Call _ _ _ _) [CmpOp.Lt] _ _) _ _ _) _) _ _ _); first | ((with_reducible show wpAny _ _ (eval (Expr.Name _ _) _) _ _ _); k_dflt refine' ld (by k_asm) (by first | exact Has.get (by with_reducible assumption) (by exact rfl) | exact rfl) ?_) | ((with_reducible refine execs_cons_gen ?_); intro _; (try dsimp only)) | ((with_reducible refine execs_nil_gen ?_); intro _; (try dsimp only)) | walk1 | (dsimp only; walk1))
   all_goals (try (exfalso; omega))
   ·have e1 : A2 ≠ [] := by rintro rfl; simp at lenA; omega
    have e2 : B2 ≠ [] := by rintro rfl; simp at lenB; omega
    (with_reducible rename Fr _ _ _ _ => kF); (with_reducible rename News _ _ _ _ => kN)
    refine letX2_4_8io (fun m₁ news₁ => ∃ (S G : List Nat) (ta tb : Tok), news = news₁ ∧ S.length ≤ 30 ∧ G.length ≤ 30 ∧ S.length ≤ G.length ∧ coreF A2 B2 c = (if ((G.length : Int) - S.length) * 2 > c then c + 1 else rowsF S G c) ∧ Has m₁ (Str.ofString "a") (.str (mkS S) ta) ∧ Has m₁ (Str.ofString "b") (.str (mkS G) tb) ∧ Has m₁ (Str.ofString "max_cost") (.int c tc) : FMap → Ledger → Prop) (fun _ _ => .rfl) fun P hPi hPo => ?_
    refine Stmt_cut P kF ?_ ?_
    ·walk1
     repeat' first | (k_unfold; (try dsimp only)) | ((fail_if_success (with_reducible first | refine WG ?_ | refine FG ?_)); (fail_if_success first | with_reducible show wpAny _ _ (exec (Stmt.Assign _ (Expr.Subscript _ (Expr.Slice none (some (Expr.BoolOp _ _ _)) none _) _) _) _) _ _ _ | with_reducible show wpAny _ _ (exec (Stmt.If (Expr.Compare (Expr.Call _ _ _ _) [CmpOp.Lt] _ _) _ _ _) _) _ _ _); first | ((with_reducible show wpAny _ _ (eval (Expr.Name _ _) _) _ _ _); k_dflt refine' ld (by k_asm) (by first | exact Has.get (by with_reducible assumption) (by exact rfl) | exact rfl) ?_) | ((with_reducible refine execs_cons_gen ?_); intro _; (try dsimp only)) | ((with_reducible refine execs_nil_gen ?_); intro _; (try dsimp only)) | walk1 | (dsimp only; walk1))
     ·exact Cut.mk (news' := news) (by k_asm) (by first | k_asm | (refine' cb_drop ?cbNu2 ?cbSu2; (case cbNu2 => assumption); (case cbSu2 => first | exact fun p hp => hp | (repeat (first | exact mem_sub (fun p hp => hp) _ | refine mem_sub ?_ _))))) (by exact hPi _ _ (B2) (A2) _ _ (rfl) (lB2) (lA2) (by omega) (by rw [coreF, if_neg (by simp [e1, e2]), if_pos (by omega)]) (⟨rfl⟩) (⟨rfl⟩) (⟨m3.out⟩))
     ·exact Cut.mk (by k_asm) (by k_asm) (by exact hPi _ _ (A2) (B2) _ _ (rfl) (lA2) (lB2) (by omega) (by rw [coreF, if_neg (by simp [e1, e2]), if_neg (by omega)]) (m1) (m2) (m3))
    intro m₁ news₁ h₁ tk₁ F₁ N₁ hp
    refine hPo _ _ hp _ fun S G ta tb ej9 lS lG hSG hcore m1 m2 m3 => ?_
    clear hp
    subst ej9
    rw [hcore] at hlev
    clear kF kN hPi hPo P hcore lA2 lB2 lenA lenB e1 e2
    have lenS := mkS_len S
    have lenG := mkS_len G
    repeat' first | (k_unfold; (try dsimp only)) | ((fail_if_success (with_reducible first | refine WG ?_ | refine FG ?_)); (fail_if_success first | with_reducible show wpAny _ _ (exec (Stmt.Assign _ (Expr.Subscript _ (Expr.Slice none (some (Expr.BoolOp _ _ _)) none _) _) _) _) _ _ _ | with_reducible show wpAny _ _ (exec (Stmt.If (Expr.Compare (Expr.Call _ _ _ _) [CmpOp.Lt] _ _) _ _ _) _) _ _ _); first | ((with_reducible show wpAny _ _ (eval (Expr.Name _ _) _) _ _ _); k_dflt refine' ld (by k_asm) (by first | exact Has.get (by with_reducible assumption) (by exact rfl) | exact rfl) ?_) | ((with_reducible refine execs_cons_gen ?_); intro _; (try dsimp only)) | ((with_reducible refine execs_nil_gen ?_); intro _; (try dsimp only)) | walk1 | (dsimp only; walk1))
    ·exact cb_retI hret (by rw [hlev, if_pos (by omega)]) (by k_asm) (by first | k_asm | (refine' cb_drop ?cbNu3 ?cbSu3; (case cbNu3 => assumption); (case cbSu3 => first | exact fun p hp => hp | (repeat (first | exact mem_sub (fun p hp => hp) _ | refine mem_sub ?_ _)))))
    rw [if_neg (by omega)] at hlev
    rename IsRange _ _ _ _ _ _ _ _ => hr
    (with_reducible rename Fr _ _ _ _ => kF); (with_reducible rename News _ _ _ _ => kN)
    have hsz : Builtin.Range.rangeSize 2 (2 * (((mkS S).length : Int) + 1)) 2 = S.length := rangeSize_two (by rw [lenS])
    have hsm : Builtin.Range.small 2 (2 * (((mkS S).length : Int) + 1)) 2 = true := small_two (n := S.length) (by omega) (by rw [lenS])
    refine list_rangeK (s := ⟨_, _, _, _, _⟩) (by rfl) kF kN hr hsm hsz (by omega) ?_
    intro h₂ tk₂ vs ep hnA F₂ N₂ hI
    clear kF kN hr hsz hsm
    repeat' first | (k_unfold; (try dsimp only)) | ((fail_if_success (with_reducible first | refine WG ?_ | refine FG ?_)); (fail_if_success first | with_reducible show wpAny _ _ (exec (Stmt.Assign _ (Expr.Subscript _ (Expr.Slice none (some (Expr.BoolOp _ _ _)) none _) _) _) _) _ _ _ | with_reducible show wpAny _ _ (exec (Stmt.If (Expr.Compare (Expr.Call _ _ _ _) [CmpOp.Lt] _ _) _ _ _) _) _ _ _); first | ((with_reducible refine execs_cons_gen ?_); intro _; (try dsimp only)) | walk1 | (dsimp only; walk1))
    (with_reducible rename Fr _ _ _ _ => kF); (with_reducible rename News _ _ _ _ => kN)
    refine For_enter ?_
    repeat' first | (k_unfold; (try dsimp only)) | ((fail_if_success (with_reducible first | refine WG ?_ | refine FG ?_)); (fail_if_success first | with_reducible show wpAny _ _ (exec (Stmt.Assign _ (Expr.Subscript _ (Expr.Slice none (some (Expr.BoolOp _ _ _)) none _) _) _) _) _ _ _ | with_reducible show wpAny _ _ (exec (Stmt.If (Expr.Compare (Expr.Call _ _ _ _) [CmpOp.Lt] _ _) _ _ _) _) _ _ _); first | ((with_reducible show wpAny _ _ (eval (Expr.Name _ _) _) _ _ _); k_dflt refine' ld (by k_asm) (by first | exact Has.get (by with_reducible assumption) (by exact rfl) | exact rfl) ?_) | walk1 | (dsimp only; walk1))
    rename IsRange _ _ _ _ _ _ _ _ => hr
    (with_reducible rename Fr _ _ _ _ => kF); (with_reducible rename News _ _ _ _ => kN)
    generalize hrA : Heap.objs _ = rA0 at kN hnA
    refine letX3_7_9io (fun i m₁ news₁ => ∃ (row : List Int) (res : Int) (vs : List Value) (ep : Nat) (t ta tb : Tok), news₁ = (rA0.size, listOf vs.toArray ep) :: news ∧ IntsAre vs row ∧ row.length = S.length ∧ outerR S c (G.drop i) i row res = rowsF S G c ∧ Has m₁ (Str.ofString "a") (.str (mkS S) ta) ∧ Has m₁ (Str.ofString "b") (.str (mkS G) tb) ∧ Has m₁ (Str.ofString "max_cost") (.int c tc) ∧ Has m₁ (Str.ofString "row") (.ref rA0.size) ∧ Has m₁ (Str.ofString "result") (.int res t) : Nat → FMap → Ledger → Prop) (fun _ _ _ => .rfl) fun J hJi hJo => ?_
    refine ForAt_range (n := G.length) J (by rfl) hr (by rw [lenG]) (by omega) kF kN ?_ ?_ ?_
    ·refine hJi _ _ _ _ (0) (vs) (ep) _ _ _ (rfl) (hI) (by simp) ?_ (⟨m1.out⟩) (⟨m2.out⟩) (⟨m3.out⟩) (⟨by rw [← hrA]; rfl⟩) (⟨rfl⟩)
     rw [rowsF, List.drop_zero, show (fun (i : Nat) => 2 * ((i : Int) + 1)) = fun (i : Nat) => 2 + (i : Int) * 2 from by funext i; omega]
    ·intro i t m₁ news₁ h₁ tk₁ I it hi hj hne F₁ N₁
     refine hJo _ _ _ hj _ fun row res vs ep t' ta tb ej10 hI hrow hout m1 m2 m3 m4 m5 => ?_
     clear hj
     subst ej10
     have nI : rA0.size ≠ I := hne (rA0.size, _) (.head _)
     clear kF kN hr
     repeat' first | (k_unfold; (try dsimp only)) | ((fail_if_success (with_reducible first | refine WG ?_ | refine FG ?_)); (fail_if_success first | with_reducible show wpAny _ _ (exec (Stmt.Assign _ (Expr.Subscript _ (Expr.Slice none (some (Expr.BoolOp _ _ _)) none _) _) _) _) _ _ _ | with_reducible show wpAny _ _ (exec (Stmt.If (Expr.Compare (Expr.Call _ _ _ _) [CmpOp.Lt] _ _) _ _ _) _) _ _ _); first | ((with_reducible show wpAny _ _ (eval (Expr.Name _ _) _) _ _ _); k_dflt refine' ld (by k_asm) (by first | exact Has.get (by with_reducible assumption) (by exact rfl) | exact rfl) ?_) | ((with_reducible refine execs_cons_gen ?_); intro _; (try dsimp only)) | walk1 | (dsimp only; walk1))
     (with_reducible rename Fr _ _ _ _ => kF); (with_reducible rename News _ _ _ _ => kN)
     rw [item_pos hi] at kF
     generalize hcb : G.getD i 0 = cb at kF
     refine For_enter ?_
     repeat' first | (k_unfold; (try dsimp only)) | ((fail_if_success (with_reducible first | refine WG ?_ | refine FG ?_)); (fail_if_success first | with_reducible show wpAny _ _ (exec (Stmt.Assign _ (Expr.Subscript _ (Expr.Slice none (some (Expr.BoolOp _ _ _)) none _) _) _) _) _ _ _ | with_reducible show wpAny _ _ (exec (Stmt.If (Expr.Compare (Expr.Call _ _ _ _) [CmpOp.Lt] _ _) _ _ _) _) _ _ _); first | ((with_reducible show wpAny _ _ (eval (Expr.Name _ _) _) _ _ _); k_dflt refine' ld (by k_asm) (by first | exact Has.get (by with_reducible assumption) (by exact rfl) | exact rfl) ?_) | walk1 | (dsimp only; walk1))
     rename IsRange _ _ _ _ _ _ _ _ => hr
     (with_reducible rename Fr _ _ _ _ => kF); (with_reducible rename News _ _ _ _ => kN)
     refine letX3_12_12io (fun i2 m₁ news₁ => ∃ (dn : List Int) (dist res2 mn : Int) (vs : List Value) (ep : Nat) (t1 t2 t3 t4 ta tb : Tok), news₁ = (I, it) :: (rA0.size, listOf vs.toArray ep) :: news ∧ IntsAre vs (dn ++ row.drop i2) ∧ dn.length = i2 ∧ (dn ++ (innerR cb (S.drop i2) (row.drop i2) dist res2 mn).1, (innerR cb (S.drop i2) (row.drop i2) dist res2 mn).2) = innerR cb S row (2 * i) (2 * i) big ∧ Has m₁ (Str.ofString "a") (.str (mkS S) ta) ∧ Has m₁ (Str.ofString "b") (.str (mkS G) tb) ∧ Has m₁ (Str.ofString "max_cost") (.int c tc) ∧ Has m₁ (Str.ofString "row") (.ref rA0.size) ∧ Has m₁ (Str.ofString "result") (.int res2 t1) ∧ Has m₁ (Str.ofString "distance") (.int dist t2) ∧ Has m₁ (Str.ofString "minimum") (.int mn t3) ∧ Has m₁ (Str.ofString "bchar") (.str (mkS [cb]) t4) : Nat → FMap → Ledger → Prop) (fun _ _ _ => .rfl) fun J2 hJ2i hJ2o => ?_
     refine ForAt_range (n := S.length) J2 (by rfl) hr (by rw [lenS]) (by omega) kF kN ?_ ?_ ?_
     ·refine hJ2i _ _ _ ([]) _ _ _ (vs) (ep) _ _ _ _ _ _ (rfl) (hI) (rfl) (rfl) (⟨m1.out⟩) (⟨m2.out⟩) (⟨m3.out⟩) (⟨m4.out⟩) (⟨by rw [Int.mul_comm]; rfl⟩) (⟨by rw [Int.mul_comm]; rfl⟩) (⟨rfl⟩) (⟨rfl⟩)
     ·intro i2 t m₁ news₁ h₁ tk₁ I2 it2 hi2 hj hne2 F₁ N₁
      refine hJ2o _ _ _ hj _ fun dn dist res2 mn vs ep t1 t2 t3 t4 ta tb ej12 hI2 hdn hin m1 m2 m3 m4 m5 m6 m7 m8 => ?_
      clear hj
      subst ej12
      clear kF kN hr
      have lcb : (mkS [cb]).length = 1 := rfl
      have nI2 : rA0.size ≠ I2 := hne2 (rA0.size, _) (.tail _ (.head _))
      have lrow : (dn ++ row.drop i2).length = S.length := by rw [List.length_append, List.length_drop]; omega
      repeat' first | (k_unfold; (try dsimp only)) | ((fail_if_success (with_reducible first | refine WG ?_ | refine FG ?_)); (fail_if_success first | with_reducible show wpAny _ _ (exec (Stmt.Assign _ (Expr.Subscript _ (Expr.Slice none (some (Expr.BoolOp _ _ _)) none _) _) _) _) _ _ _ | with_reducible show wpAny _ _ (exec (Stmt.If (Expr.Compare (Expr.Call _ _ _ _) [CmpOp.Lt] _ _) _ _ _) _) _ _ _); first | ((with_reducible show wpAny _ _ (call (Value.ref 28) _ _) _ _ _); k_dflt (refine' subst_spec (by k_asm) (by k_asm) (by k_asm) (by k_asm) (by k_asm) (by first | exact rfl | assumption) (by ktr_room) (by ktr_units) (by omega) (by omega) ?_; intro _ _ _ _ _; (try dsimp only))) | ((with_reducible show wpAny _ _ (eval (Expr.Name _ _) _) _ _ _); k_dflt refine' ld (by k_asm) (by first | exact Has.get (by with_reducible assumption) (by exact rfl) | exact rfl) ?_) | ((with_reducible refine execs_cons_gen ?_); intro _; (try dsimp only)) | walk1 | (dsimp only; walk1))
      clear hI
      (with_reducible rename Fr _ _ _ _ => kF); (with_reducible rename News _ _ _ _ => kN)
      refine ksa_set kF kN (.tail (Ne.symm nI2) (.tail (Ne.symm nI) (.head hnA))) hI2 (by omega) (by rw [lrow]; omega) (by omega) ?_
      intro h3 F3 N3 hI3 _ _
      rw [Int.toNat_natCast, set_at _ hdn (by omega)] at hI3
      simp only [min_ite, get_at hdn (show i2 < row.length by omega), item_pos hi2, Int.toNat_natCast] at hI3 F3 N3
      clear kF kN hI2
      repeat' first | (k_unfold; (try dsimp only)) | ((fail_if_success (with_reducible first | refine WG ?_ | refine FG ?_)); (fail_if_success first | with_reducible show wpAny _ _ (exec (Stmt.Assign _ (Expr.Subscript _ (Expr.Slice none (some (Expr.BoolOp _ _ _)) none _) _) _) _) _ _ _ | with_reducible show wpAny _ _ (exec (Stmt.If (Expr.Compare (Expr.Call _ _ _ _) [CmpOp.Lt] _ _) _ _ _) _) _ _ _); first | ((with_reducible show wpAny _ _ (eval (Expr.Name _ _) _) _ _ _); k_dflt refine' ld (by k_asm) (by first | exact Has.get (by with_reducible assumption) (by exact rfl) | exact rfl) ?_) | ((with_reducible refine execs_cons_gen ?_); intro _; (try dsimp only)) | ((with_reducible refine execs_nil_gen ?_); intro _; (try dsimp only)) | walk1 | (dsimp only; walk1))
      all_goals (refine FPost.next (by k_asm) (by k_asm) ?_ ?_)
      ·exact List.forall_mem_cons.mpr ⟨hne2 _ (.head _), List.forall_mem_cons.mpr ⟨nI2, fun p hp => hne2 p (.tail _ (.tail _ hp))⟩⟩
      ·exact hJ2i _ _ _ _ _ _ _ _ _ _ _ _ _ _ _ (rfl) (hI3) (by simp [hdn]) (inner_step hi2 hrow hin rfl (if_pos (by assumption)).symm) (⟨m1.out⟩) (⟨m2.out⟩) (⟨m3.out⟩) (⟨m4.out⟩) (⟨rfl⟩) (⟨rfl⟩) (⟨rfl⟩) (⟨m8.out⟩)
      ·exact List.forall_mem_cons.mpr ⟨hne2 _ (.head _), List.forall_mem_cons.mpr ⟨nI2, fun p hp => hne2 p (.tail _ (.tail _ hp))⟩⟩
      ·exact hJ2i _ _ _ _ _ _ _ _ _ _ _ _ _ _ _ (rfl) (hI3) (by simp [hdn]) (inner_step hi2 hrow hin rfl (if_neg (by assumption)).symm) (⟨m1.out⟩) (⟨m2.out⟩) (⟨m3.out⟩) (⟨m4.out⟩) (⟨rfl⟩) (⟨rfl⟩) (⟨m7.out⟩) (⟨m8.out⟩)
     ·intro m₁ news₁ h₁ tk₁ hj F₁ N₁
      dsimp only [envOf] at F₁ N₁
      refine hJ2o _ _ _ hj _ fun dn dist res2 mn vs ep t1 t2 t3 t4 ta tb ej13 hI2 hdn hin m1 m2 m3 m4 m5 m6 m7 m8 => ?_
      clear hj
      subst ej13
      clear kF kN hr
      rw [List.drop_of_length_le (Nat.le_refl _), List.drop_of_length_le (by omega), innerR_nil, List.append_nil] at hin
      rw [List.drop_of_length_le (by omega), List.append_nil] at hI2
      rw [drop_getD 0 hi, hcb, outerR_cons, ← hin] at hout
      repeat' first | (k_unfold; (try dsimp only)) | ((fail_if_success (with_reducible first | refine WG ?_ | refine FG ?_)); (fail_if_success first | with_reducible show wpAny _ _ (exec (Stmt.Assign _ (Expr.Subscript _ (Expr.Slice none (some (Expr.BoolOp _ _ _)) none _) _) _) _) _ _ _ | with_reducible show wpAny _ _ (exec (Stmt.If (Expr.Compare (Expr.Call _ _ _ _) [CmpOp.Lt] _ _) _ _ _) _) _ _ _); first | ((with_reducible show wpAny _ _ (eval (Expr.Name _ _) _) _ _ _); k_dflt refine' ld (by k_asm) (by first | exact Has.get (by with_reducible assumption) (by exact rfl) | exact rfl) ?_) | ((with_reducible refine execs_cons_gen ?_); intro _; (try dsimp only)) | ((with_reducible refine execs_nil_gen ?_); intro _; (try dsimp only)) | walk1 | (dsimp only; walk1))
      ·dsimp only
       refine FPost.ret ?_
       dsimp only
       repeat' first | (k_unfold; (try dsimp only)) | ((fail_if_success (with_reducible first | refine WG ?_ | refine FG ?_)); (fail_if_success first | with_reducible show wpAny _ _ (exec (Stmt.Assign _ (Expr.Subscript _ (Expr.Slice none (some (Expr.BoolOp _ _ _)) none _) _) _) _) _ _ _ | with_reducible show wpAny _ _ (exec (Stmt.If (Expr.Compare (Expr.Call _ _ _ _) [CmpOp.Lt] _ _) _ _ _) _) _ _ _); first | walk1 | (dsimp only; walk1))
       exact cb_retI hret (by rw [hlev, ← hout, if_pos (by simp only; omega)]) (by k_asm) (fun p hp => (by assumption : News h₀ L _ ((I, it) :: (rA0.size, listOf vs.toArray ep) :: news)) p (.tail _ (.tail _ hp)))
      ·refine FPost.next (by k_asm) (by k_asm) ?_ ?_
       ·exact List.forall_mem_cons.mpr ⟨nI, fun p hp => hne p (.tail _ hp)⟩
       ·exact hJi _ _ _ (dn) (res2) (vs) (ep) _ _ _ (rfl) (hI2) (by omega) (by rw [← hout, if_neg (by simp only; omega)]) (⟨m1.out⟩) (⟨m2.out⟩) (⟨m3.out⟩) (⟨m4.out⟩) (⟨m5.out⟩)
    ·intro m₁ news₁ h₁ tk₁ hj F₁ N₁
     dsimp only [envOf] at F₁ N₁
     refine hJo _ _ _ hj _ fun row res vs ep t' ta tb ej11 hI hrow hout m1 m2 m3 m4 m5 => ?_
     clear hj
     subst ej11
     clear kF kN hr
     rw [List.drop_length] at hout
     repeat' first | (k_unfold; (try dsimp only)) | ((fail_if_success (with_reducible first | refine WG ?_ | refine FG ?_)); (fail_if_success first | with_reducible show wpAny _ _ (exec (Stmt.Assign _ (Expr.Subscript _ (Expr.Slice none (some (Expr.BoolOp _ _ _)) none _) _) _) _) _ _ _ | with_reducible show wpAny _ _ (exec (Stmt.If (Expr.Compare (Expr.Call _ _ _ _) [CmpOp.Lt] _ _) _ _ _) _) _ _ _); first | ((with_reducible show wpAny _ _ (eval (Expr.Name _ _) _) _ _ _); k_dflt refine' ld (by k_asm) (by first | exact Has.get (by with_reducible assumption) (by exact rfl) | exact rfl) ?_) | ((with_reducible refine execs_cons_gen ?_); intro _; (try dsimp only)) | ((with_reducible refine execs_nil_gen ?_); intro _; (try dsimp only)) | walk1 | (dsimp only; walk1))
     exact cb_retI hret (by rw [hlev, ← hout]; rfl) (by k_asm) (by first | k_asm | (refine' cb_drop ?cbNu4 ?cbSu4; (case cbNu4 => assumption); (case cbSu4 => first | exact fun p hp => hp | (repeat (first | exact mem_sub (fun p hp => hp) _ | refine mem_sub ?_ _)))))
   all_goals (refine cb_retI hret ?_ (by k_asm) (by first | k_asm | (refine' cb_drop ?cbNu5 ?cbSu5; (case cbNu5 => assumption); (case cbSu5 => first | exact fun p hp => hp | (repeat (first | exact mem_sub (fun p hp => hp) _ | refine mem_sub ?_ _))))))
   all_goals (rw [hlev, coreF, if_pos (by first | (left; apply List.eq_nil_of_length_eq_zero; omega) | (right; apply List.eq_nil_of_length_eq_zero; omega)), lenA, lenB])
end
local macro_rules | `(tactic| k_mem) => `(tactic| with_reducible_and_instances assumption)
local macro_rules | `(tactic| k_upd) => `(tactic| exact upd_uniq (by with_reducible assumption) (by k_mem))
local macro_rules | `(tactic| k_updF) => `(tactic| exact updF_uniq (by with_reducible assumption) (by k_mem))
local macro_rules | `(tactic| k_all) => `(tactic| first | exact allneA (by with_reducible assumption) | exact allneB (by with_reducible assumption) (by with_reducible assumption) | exact allne_of (by with_reducible assumption) | exact allne_lt (by with_reducible assumption) (by with_reducible assumption))
local macro_rules | `(tactic| ktr_units) => `(tactic| (have hcL9 := cLine_is; (try simp only [units_make, units_in1, units_deeper, Around.mark_units, units_caller] at *); (try dsimp only [ktrTop] at *); omega))
section
open PySem PySem.W PyProof.Rows PySem.Calls
variable {w : World} {mean : ExcName → Option Value} {mg mb : Str → Option Value} {dp un : Nat} {gd : Option (List Code)} {cn : Str} {cs : Scope} {a : Addr} {ccd : Value} {cl : List (Str × Addr)} {outer : List Env} {A₀ : Around} {base h₀ : Heap} {L : Addr} {m : Str → Option Value} {news : List (Addr × Obj)} {s : Shared} {Q E : Value → Shared → Prop}
theorem node_old {S dS N2 : Addr} {rd : Value} {t1 t2 t3 t4 tpo tfi : Tok} {po fi : Int} {k : Int} {tk : Tok} {o2 : Obj} {kvs : List (Int × Value)} {x : Addr} (B : Below A₀ base outer h₀) (F : Fr h₀ L s.heap m) (X : (Mine.hd.heap_39 w.params).In h₀) (N : News h₀ L s.heap news) (T : Top vw loose0 mean mg mb h₀) (hk : cs.kind = .function)
  (hd : dp + 19 < recursionLimit) (hu : un + 72 < cLine) (U : Uniq news)
  (hS : (S, instObj 197 dS) ∈ news) (hdS : (dS, sDict w t1 t2 t3 t4 N2 rd po fi tpo tfi) ∈ news) (hN2 : (N2, o2) ∈ news) (h2 : o2.IsDictOf (intKind prg w) kvs) (h2m : (N2 == sysModules) = false) (hv : valueAt kvs k = some (.ref x))
  (hret : ∀ h' tk', Fr h₀ L h' m → News h₀ L h' news → Q (.ref x) { s with heap := h', toks := tk' }) :
  wpAny (model prg w) (ktrTop dp un gd cn cs L a ccd cl outer) (call (.ref 140) [.ref S, .int k tk]) Q E s := by
 refine wpAny_call ?_
 k_dflt cell_enter
 refine wpAny_noRaise ?_
 clear F N
 repeat' first | (k_unfold; (try dsimp only)) | ((fail_if_success (with_reducible first | refine WG ?_ | refine FG ?_)); first | ((with_reducible show wpAny _ _ (call (Value.builtin "dict.get") _) _ _ _); k_dflt (refine' kdg_get1 (knd := intKind _ _) (by k_asm) (by k_mem) (by with_reducible assumption) (by with_reducible assumption) (intKind_is _ _ _ _) _ (by with_reducible assumption) ?_; (try dsimp only [Option.getD]))) | ((with_reducible show wpAny _ _ (getMethod (Value.ref _) (Str.ofString "get") _) _ _ _); k_dflt refine' kdg_method (knd := intKind _ _) (by k_asm) (by k_mem) (by with_reducible assumption) ?_) | ((with_reducible show wpAny _ _ (eval (Expr.Name _ _) _) _ _ _); k_dflt refine' ld (by k_asm) (by first | exact Has.get (by with_reducible assumption) (by exact rfl) | exact rfl) ?_) | ((with_reducible refine execs_cons_gen ?_); intro _; (try dsimp only)) | ((with_reducible refine execs_nil_gen ?_); intro _; (try dsimp only)) | walk1 | (dsimp only; walk1))
 exact hret _ _ (by k_asm) (by k_asm)
theorem node_new {S dS N2 : Addr} {rd : Value} {t1 t2 t3 t4 tpo tfi : Tok} {po fi : Int} {k : Int} {tk : Tok} {o2 : Obj} {kvs : List (Int × Value)} (B : Below A₀ base outer h₀) (F : Fr h₀ L s.heap m) (X : (Mine.hd.heap_39 w.params).In h₀) (N : News h₀ L s.heap news) (T : Top vw loose0 mean mg mb h₀) (hk : cs.kind = .function)
  (hd : dp + 19 < recursionLimit) (hu : un + 72 < cLine) (U : Uniq news)
  (hS : (S, instObj 197 dS) ∈ news) (hdS : (dS, sDict w t1 t2 t3 t4 N2 rd po fi tpo tfi) ∈ news) (hN2 : (N2, o2) ∈ news) (h2 : o2.IsDictOf (intKind prg w) kvs) (h2m : (N2 == sysModules) = false) (hv : valueAt kvs k = none) (hsz : kvs.length ≤ sizeLine)
  (hret : ∀ dx x sa o' t0 h' tk', (∀ p ∈ news, p.1 < dx) → dx < x → x < sa → o'.IsDictOf (intKind prg w) (stored kvs k (.ref x)) → Fr h₀ L h' m →
   News h₀ L h' (setL ((sa, listOf #[] 0) :: (x, infoObj dx k tk 0 t0 sa) :: (dx, dictOf [] 0) :: news) N2 o') → Q (.ref x) { s with heap := h', toks := tk' }) :
  wpAny (model prg w) (ktrTop dp un gd cn cs L a ccd cl outer) (call (.ref 140) [.ref S, .int k tk]) Q E s := by
 refine wpAny_call ?_
 k_dflt cell_enter
 refine wpAny_noRaise ?_
 clear F N
 repeat' first | (k_unfold; (try dsimp only)) | ((fail_if_success (with_reducible first | refine WG ?_ | refine FG ?_)); first | ((with_reducible show wpAny _ _ (call (Value.builtin "dict.get") _) _ _ _); k_dflt (refine' kdg_get1 (knd := intKind _ _) (by k_asm) (by k_mem) (by with_reducible assumption) (by with_reducible assumption) (intKind_is _ _ _ _) _ (by with_reducible assumption) ?_; (try dsimp only [Option.getD]))) | ((with_reducible show wpAny _ _ (getMethod (Value.ref _) (Str.ofString "get") _) _ _ _); k_dflt refine' kdg_method (knd := intKind _ _) (by k_asm) (by k_mem) (by with_reducible assumption) ?_) | ((with_reducible show wpAny _ _ (eval (Expr.Name _ _) _) _ _ _); k_dflt refine' ld (by k_asm) (by first | exact Has.get (by with_reducible assumption) (by exact rfl) | exact rfl) ?_) | ((with_reducible refine execs_cons_gen ?_); intro _; (try dsimp only)) | ((with_reducible refine execs_nil_gen ?_); intro _; (try dsimp only)) | walk1 | (dsimp only; walk1))
 (with_reducible rename _ < _ ∧ _ < _ ∧ AllLt _ news => q1)
 (with_reducible rename ∀ p ∈ news, p.1 < _ => q0)
 (with_reducible rename (_ : Nat) < _ => q2)
 refine an2 (q1) fun a1 a2 a3 => ?_
 try clear q1
 (with_reducible rename Fr _ _ _ _ => kF); (with_reducible rename News _ _ _ _ => kN)
 have U1 := U.cons (o := dictOf [] 0) q0
 have U2 := fun o => U1.cons (o := o) (List.forall_mem_cons.mpr ⟨q2, fun p hp => Nat.lt_trans (q0 p hp) q2⟩)
 have U3 := fun o o' => (U2 o).cons (o := o') (List.forall_mem_cons.mpr ⟨a1, List.forall_mem_cons.mpr ⟨a2, allLt_mem a3⟩⟩)
 refine kda_set (knd := intKind _ _) kF kN (updF_uniq (U3 _ _) (.tail _ (.tail _ (.tail _ hN2)))) h2 (intKind_is _ _ _ _) hsz ?_
 intro h3 o3 F3 N3 hd3
 clear kF kN
 repeat' first | (k_unfold; (try dsimp only)) | ((fail_if_success (with_reducible first | refine WG ?_ | refine FG ?_)); first | ((with_reducible show wpAny _ _ (eval (Expr.Name _ _) _) _ _ _); k_dflt refine' ld (by k_asm) (by first | exact Has.get (by with_reducible assumption) (by exact rfl) | exact rfl) ?_) | ((with_reducible refine execs_cons_gen ?_); intro _; (try dsimp only)) | ((with_reducible refine execs_nil_gen ?_); intro _; (try dsimp only)) | walk1 | (dsimp only; walk1))
 exact hret _ _ _ _ _ _ _ q0 q2 a1 hd3 (by k_asm) (by k_asm)
end
section
open PySem PySem.W PyProof.Rows PySem.Calls
structure Lay where
 S : Addr
 dS : Addr
 N2 : Addr
 ia : Int → Addr
 da : Int → Addr
 sa : Int → Addr
@[reducible] def Lay.add (Y : Lay) (k : Int) (x dx sa : Addr) : Lay := { Y with ia := fun j => if j = k then x else Y.ia j, da := fun j => if j = k then dx else Y.da j, sa := fun j => if j = k then sa else Y.sa j }
noncomputable def Foot (Y : Lay) (keys : List Int) (a : Addr) : Prop := a = Y.S ∨ a = Y.dS ∨ a = Y.N2 ∨ ∃ k ∈ keys, a = Y.ia k ∨ a = Y.da k ∨ a = Y.sa k
noncomputable abbrev pairsOfK (Y : Lay) (keys : List Int) : List (Int × Value) := keys.map fun k => (k, Value.ref (Y.ia k))
structure SIn (w : World) (news : Ledger) (Y : Lay) (keys : List Int) (np : Int → Int) (succ : Int → List Int) (rd : Value) (po fi : Int) (rest : Ledger) : Prop where
 uniq : Uniq news
 inst : (Y.S, instObj 197 Y.dS) ∈ news
 sd : ∃ t1 t2 t3 t4 tpo tfi, (Y.dS, sDict w t1 t2 t3 t4 Y.N2 rd po fi tpo tfi) ∈ news
 n2 : ∃ o, (Y.N2, o) ∈ news ∧ o.IsDictOf (intKind prg w) (pairsOfK Y keys)
 nm : (Y.N2 == sysModules) = false
 nd : Y.dS ≠ Y.N2
 nS : Y.S ≠ Y.N2
 nodup : keys.Nodup
 info : ∀ k ∈ keys, ∃ t t', (Y.ia k, infoObj (Y.da k) k t (np k) t' (Y.sa k)) ∈ news
 dinf : ∀ k ∈ keys, (Y.da k, dictOf [] 0) ∈ news ∧ Y.da k ≠ Y.N2 ∧ Y.da k ≠ Y.dS
 iN : ∀ k ∈ keys, Y.ia k ≠ Y.N2 ∧ Y.sa k ≠ Y.N2 ∧ Y.ia k ≠ Y.dS ∧ Y.sa k ≠ Y.dS
 suc : ∀ k ∈ keys, ∃ vs ep, (Y.sa k, listOf vs.toArray ep) ∈ news ∧ IntsAre vs (succ k)
 sinj : ∀ k ∈ keys, ∀ j ∈ keys, Y.sa k = Y.sa j → k = j
 off : ∀ j, j ∉ keys → np j = 0 ∧ succ j = []
 rst : ∀ p ∈ rest, p ∈ news ∧ ¬ Foot Y keys p.1
theorem valueAt_map {f : Int → Value} : ∀ {keys : List Int} {k : Int}, valueAt (keys.map fun k => (k, f k)) k = if k ∈ keys then some (f k) else none
 | [], k => by simp [valueAt]
 | j :: keys, k => by
  unfold valueAt
  rw [List.map_cons, List.find?_cons]
  by_cases h : j = k
  ·subst h; simp
  ·have ih := valueAt_map (f := f) (keys := keys) (k := k)
   unfold valueAt at ih
   simp only [h, decide_false]
   rw [ih]
   simp [Ne.symm h]
theorem stored_new {f : Int → Value} {keys : List Int} {k : Int} {v : Value} (h : k ∉ keys) : stored (keys.map fun k => (k, f k)) k v = (keys.map fun k => (k, f k)) ++ [(k, v)] := by
 unfold stored
 rw [if_neg]
 simp only [List.any_map, Bool.not_eq_true, List.any_eq_false, Function.comp, decide_eq_true_eq]
 intro j hj e
 exact h (e ▸ hj)
theorem info_ne_list {dx : Addr} {k : Int} {t : Tok} {np : Int} {t' : Tok} {sa : Addr} {its : Array Value} {n : Nat} : infoObj dx k t np t' sa ≠ listOf its n := fun e => absurd (show Value.ref 100 = Value.type "list" from congrArg Obj.cls e) (by decide)
theorem info_ne_inst {dx : Addr} {k : Int} {t : Tok} {np : Int} {t' : Tok} {sa dS : Addr} : infoObj dx k t np t' sa ≠ instObj 197 dS := fun e => absurd (show Value.ref 100 = Value.ref 197 from congrArg Obj.cls e) (by decide)
theorem list_ne_dict {its : Array Value} {n : Nat} {es : List DictEntry} {m : Nat} : listOf its n ≠ dictOf es m := fun e => absurd (show Value.type "list" = Value.type "dict" from congrArg Obj.cls e) (by decide)
theorem info_ne_dict {dx : Addr} {k : Int} {t : Tok} {np : Int} {t' : Tok} {sa : Addr} {es : List DictEntry} {m : Nat} : infoObj dx k t np t' sa ≠ dictOf es m := fun e => absurd (show Value.ref 100 = Value.type "dict" from congrArg Obj.cls e) (by decide)
theorem info_ne_info {dx dx' : Addr} {k k' : Int} {t u : Tok} {np np' : Int} {t' u' : Tok} {sa sa' : Addr} (h : k ≠ k') : infoObj dx k t np t' sa ≠ infoObj dx' k' u np' u' sa' := fun e => by
 injection e with _ _ _ e4
 have := congrArg (fun a => a[0]?) e4
 simp at this
 exact h this.1
theorem list_ne_inst {its : Array Value} {n : Nat} {dS : Addr} : listOf its n ≠ instObj 197 dS := fun e => absurd (show Value.type "list" = Value.ref 197 from congrArg Obj.cls e) (by decide)
theorem dict_ne_inst {es : List DictEntry} {m : Nat} {dS : Addr} : dictOf es m ≠ instObj 197 dS := fun e => absurd (show Value.type "dict" = Value.ref 197 from congrArg Obj.cls e) (by decide)
noncomputable def dropA (l : Ledger) (a : Addr) : Ledger := l.filter fun p => decide (p.1 ≠ a)
section
variable {w : World} {news : Ledger} {Y : Lay} {keys : List Int} {np : Int → Int} {succ : Int → List Int} {rd : Value} {po fi : Int} {rest : Ledger}
theorem SIn.iinj (I : SIn w news Y keys np succ rd po fi rest) {k j : Int} (hk : k ∈ keys) (hj : j ∈ keys) (e : Y.ia k = Y.ia j) : k = j := by
 refine ex2 (I.info k hk) fun t t' h => ?_
 refine ex2 (I.info j hj) fun u u' h' => ?_
 rcases Int.decEq k j with hne | he
 ·exact absurd e (I.uniq.ne h h' (info_ne_info hne))
 ·exact he
theorem SIn.is (I : SIn w news Y keys np succ rd po fi rest) {k j : Int} (hk : k ∈ keys) (hj : j ∈ keys) : Y.ia k ≠ Y.sa j := by
 refine ex2 (I.info k hk) fun t t' h => ?_
 refine oEEA (I.suc j hj) fun vs ep h' _ => ?_
 exact I.uniq.ne h h' info_ne_list
theorem SIn.sub (I : SIn w news Y keys np succ rd po fi rest) {rest' : Ledger} (h : ∀ p ∈ rest', p ∈ rest) : SIn w news Y keys np succ rd po fi rest' := { I with rst := fun p hp => I.rst p (h p hp) }
theorem SIn.setRest (I : SIn w news Y keys np succ rd po fi rest) {R : Addr} {o o' : Obj} (h : (R, o) ∈ rest) : SIn w (setL news R o') Y keys np succ rd po fi (setL rest R o') := by
 refine an1 (I.rst _ h) fun hn hf => ?_
 have hne : ∀ a, Foot Y keys a → a ≠ R := fun a ha e => hf (e ▸ ha)
 refine { I with uniq := I.uniq.set _ _, inst := mem_set_ne I.inst (hne _ (.inl rfl)), sd := ?_, n2 := ?_, info := ?_, dinf := ?_, suc := ?_, rst := ?_ }
 ·refine ex6 (I.sd) fun t1 t2 t3 t4 tpo tfi hs => ?_
  exact ⟨t1, t2, t3, t4, tpo, tfi, mem_set_ne hs (hne _ (.inr (.inl rfl)))⟩
 ·refine oEA (I.n2) fun o ho hd => ?_
  exact ⟨o, mem_set_ne ho (hne _ (.inr (.inr (.inl rfl)))), hd⟩
 ·intro k hk
  refine ex2 (I.info k hk) fun t t' hi => ?_
  exact ⟨t, t', mem_set_ne hi (hne _ (.inr (.inr (.inr ⟨k, hk, .inl rfl⟩))))⟩
 ·intro k hk
  refine an1 (I.dinf k hk) fun a b => ?_
  exact ⟨mem_set_ne a (hne _ (.inr (.inr (.inr ⟨k, hk, .inr (.inl rfl)⟩)))), b⟩
 ·intro k hk
  refine oEEA (I.suc k hk) fun vs ep a b => ?_
  exact ⟨vs, ep, mem_set_ne a (hne _ (.inr (.inr (.inr ⟨k, hk, .inr (.inr rfl)⟩)))), b⟩
 ·intro p hp
  refine oEA (List.mem_map.mp hp) fun q hq er1 => ?_
  subst er1
  by_cases e : q.1 = R
  ·rw [if_pos e]; exact ⟨mem_set_self hn, hf⟩
  ·rw [if_neg e]; exact ⟨mem_set_ne (I.rst q hq).1 e, (I.rst q hq).2⟩
theorem SIn.cons (I : SIn w news Y keys np succ rd po fi rest) {a : Addr} {o : Obj} (h : ∀ p ∈ news, p.1 ≠ a) : SIn w ((a, o) :: news) Y keys np succ rd po fi ((a, o) :: rest) := by
 refine { I with uniq := I.uniq.cons_ne h, inst := .tail _ I.inst, sd := ?_, n2 := ?_, info := ?_, dinf := ?_, suc := ?_, rst := ?_ }
 ·refine ex6 (I.sd) fun t1 t2 t3 t4 tpo tfi hs => ?_
  exact ⟨t1, t2, t3, t4, tpo, tfi, .tail _ hs⟩
 ·refine oEA (I.n2) fun o ho hd => ?_
  exact ⟨o, .tail _ ho, hd⟩
 ·intro k hk; obtain ⟨t, t', hi⟩ := I.info k hk; exact ⟨t, t', .tail _ hi⟩
 ·intro k hk; obtain ⟨a, b⟩ := I.dinf k hk; exact ⟨.tail _ a, b⟩
 ·intro k hk; obtain ⟨vs, ep, a, b⟩ := I.suc k hk; exact ⟨vs, ep, .tail _ a, b⟩
 ·refine List.forall_mem_cons.mpr ⟨⟨.head _, fun f => ?_⟩, fun p hp => ⟨.tail _ (I.rst p hp).1, (I.rst p hp).2⟩⟩
  rcases f with f | f | f | ⟨k, hk, f | f | f⟩
  ·exact h _ I.inst f.symm
  ·refine ex6 (I.sd) fun t1 t2 t3 t4 tpo tfi hs => ?_
   exact h _ hs f.symm
  ·refine oEA (I.n2) fun o ho _ => ?_
   exact h _ ho f.symm
  ·refine ex2 (I.info k hk) fun t t' hi => ?_
   exact h _ hi f.symm
  ·exact h _ (I.dinf k hk).1 f.symm
  ·refine oEEA (I.suc k hk) fun vs ep hi _ => ?_
   exact h _ hi f.symm
theorem SIn.setNp (I : SIn w news Y keys np succ rd po fi rest) {k v : Int} {t t' : Tok} (hk : k ∈ keys) : SIn w (setL news (Y.ia k) (infoObj (Y.da k) k t v t' (Y.sa k))) Y keys (fun j => if j = k then v else np j) succ rd po fi rest := by
 refine ex2 (I.info k hk) fun u u' hi => ?_
 refine an3 (I.iN k hk) fun n1 n2 n3 n4 => ?_
 refine { I with uniq := I.uniq.set _ _, inst := mem_set_ne I.inst (Ne.symm (I.uniq.ne hi I.inst info_ne_inst)), sd := ?_, n2 := ?_, info := ?_, dinf := ?_, suc := ?_, off := ?_, rst := ?_ }
 ·refine ex6 (I.sd) fun t1 t2 t3 t4 tpo tfi hs => ?_
  exact ⟨t1, t2, t3, t4, tpo, tfi, mem_set_ne hs (Ne.symm n3)⟩
 ·refine oEA (I.n2) fun o ho hd => ?_
  exact ⟨o, mem_set_ne ho (Ne.symm n1), hd⟩
 ·intro j hj
  by_cases e : j = k
  ·subst e; rw [if_pos rfl]; exact ⟨t, t', mem_set_self hi⟩
  ·rw [if_neg e]
   refine ex2 (I.info j hj) fun x x' hx => ?_
   exact ⟨x, x', mem_set_ne hx fun q => e (I.iinj hj hk q)⟩
 ·intro j hj
  refine an1 (I.dinf j hj) fun a b => ?_
  exact ⟨mem_set_ne a (Ne.symm (I.uniq.ne hi a info_ne_dict)), b⟩
 ·intro j hj
  refine oEEA (I.suc j hj) fun vs ep a b => ?_
  exact ⟨vs, ep, mem_set_ne a (Ne.symm (I.is hk hj)), b⟩
 ·intro j hj
  rw [if_neg (fun (e : j = k) => hj (e ▸ hk))]; exact I.off j hj
 ·intro p hp
  exact ⟨mem_set_ne (I.rst p hp).1 fun e => (I.rst p hp).2 (e ▸ .inr (.inr (.inr ⟨k, hk, .inl rfl⟩))), (I.rst p hp).2⟩
theorem SIn.addSucc (I : SIn w news Y keys np succ rd po fi rest) {k x : Int} {vs : List Value} {ep : Nat} (hk : k ∈ keys) (hv : IntsAre vs (succ k ++ [x])) : SIn w (setL news (Y.sa k) (listOf vs.toArray ep)) Y keys np (fun j => if j = k then succ j ++ [x] else succ j) rd po fi rest := by
 refine oEEA (I.suc k hk) fun us eu hi _ => ?_
 refine an3 (I.iN k hk) fun n1 n2 n3 n4 => ?_
 refine { I with uniq := I.uniq.set _ _, inst := mem_set_ne I.inst (Ne.symm (I.uniq.ne hi I.inst list_ne_inst)), sd := ?_, n2 := ?_, info := ?_, dinf := ?_, suc := ?_, off := ?_, rst := ?_ }
 ·refine ex6 (I.sd) fun t1 t2 t3 t4 tpo tfi hs => ?_
  exact ⟨t1, t2, t3, t4, tpo, tfi, mem_set_ne hs (Ne.symm n4)⟩
 ·refine oEA (I.n2) fun o ho hd => ?_
  exact ⟨o, mem_set_ne ho (Ne.symm n2), hd⟩
 ·intro j hj
  refine ex2 (I.info j hj) fun x x' hx => ?_
  exact ⟨x, x', mem_set_ne hx (I.is hj hk)⟩
 ·intro j hj
  refine an1 (I.dinf j hj) fun a b => ?_
  exact ⟨mem_set_ne a (Ne.symm (I.uniq.ne hi a list_ne_dict)), b⟩
 ·intro j hj
  by_cases e : j = k
  ·subst e; rw [if_pos rfl]; exact ⟨vs, ep, mem_set_self hi, hv⟩
  ·rw [if_neg e]
   refine oEEA (I.suc j hj) fun vs ep a b => ?_
   exact ⟨vs, ep, mem_set_ne a fun q => e (I.sinj j hj k hk q), b⟩
 ·intro j hj
  rw [if_neg (fun (e : j = k) => hj (e ▸ hk))]; exact I.off j hj
 ·intro p hp
  exact ⟨mem_set_ne (I.rst p hp).1 fun e => (I.rst p hp).2 (e ▸ .inr (.inr (.inr ⟨k, hk, .inr (.inr rfl)⟩))), (I.rst p hp).2⟩
theorem SIn.setD (I : SIn w news Y keys np succ rd po fi rest) {t1 t2 t3 t4 tpo tfi : Tok} {rd' : Value} {po' fi' : Int} : SIn w (setL news Y.dS (sDict w t1 t2 t3 t4 Y.N2 rd' po' fi' tpo tfi)) Y keys np succ rd' po' fi' rest := by
 refine ex6 (I.sd) fun u1 u2 u3 u4 upo ufi hi => ?_
 refine { I with uniq := I.uniq.set _ _, inst := mem_set_ne I.inst (Ne.symm (I.uniq.ne hi I.inst dict_ne_inst)), sd := ⟨_, _, _, _, _, _, mem_set_self hi⟩, n2 := ?_, info := ?_, dinf := ?_, suc := ?_, rst := ?_ }
 ·refine oEA (I.n2) fun o ho hd => ?_
  exact ⟨o, mem_set_ne ho (Ne.symm I.nd), hd⟩
 ·intro j hj
  refine ex2 (I.info j hj) fun x x' hx => ?_
  exact ⟨x, x', mem_set_ne hx (I.iN j hj).2.2.1⟩
 ·intro j hj
  refine an1 (I.dinf j hj) fun a b => ?_
  exact ⟨mem_set_ne a b.2, b⟩
 ·intro j hj
  refine oEEA (I.suc j hj) fun vs ep a b => ?_
  exact ⟨vs, ep, mem_set_ne a (I.iN j hj).2.2.2, b⟩
 ·intro p hp
  exact ⟨mem_set_ne (I.rst p hp).1 fun e => (I.rst p hp).2 (e ▸ .inr (.inl rfl)), (I.rst p hp).2⟩
theorem SIn.newKey (I : SIn w news Y keys np succ rd po fi rest) {k : Int} {x dx sa : Addr} {o' : Obj} {t t' : Tok} (hk : k ∉ keys) (q0 : ∀ p ∈ news, p.1 < dx) (q1 : dx < x) (q2 : x < sa) (hd : o'.IsDictOf (intKind prg w) (stored (pairsOfK Y keys) k (.ref x))) :
  SIn w (setL ((sa, listOf #[] 0) :: (x, infoObj dx k t 0 t' sa) :: (dx, dictOf [] 0) :: news) Y.N2 o') (Y.add k x dx sa) (keys ++ [k]) np succ rd po fi rest := by
 refine oEA (I.n2) fun oN hN _ => ?_
 have lN := q0 _ hN
 have lS := q0 _ I.inst
 refine ex6 (I.sd) fun u1 u2 u3 u4 upo ufi hsd => ?_
 have lD := q0 _ hsd
 have U3 : Uniq ((sa, listOf #[] 0) :: (x, infoObj dx k t 0 t' sa) :: (dx, dictOf [] 0) :: news) :=
  ((I.uniq.cons q0).cons (List.forall_mem_cons.mpr ⟨q1, fun p hp => Nat.lt_trans (q0 p hp) q1⟩)).cons (List.forall_mem_cons.mpr ⟨q2, List.forall_mem_cons.mpr ⟨Nat.lt_trans q1 q2, fun p hp => Nat.lt_trans (q0 p hp) (Nat.lt_trans q1 q2)⟩⟩)
 have up : ∀ {a : Addr} {o : Obj}, (a, o) ∈ news → a ≠ Y.N2 → (a, o) ∈ setL ((sa, listOf #[] 0) :: (x, infoObj dx k t 0 t' sa) :: (dx, dictOf [] 0) :: news) Y.N2 o' := fun h hne => mem_set_ne (.tail _ (.tail _ (.tail _ h))) hne
 have ne : ∀ {j : Int}, j ∈ keys → j ≠ k := fun hj e => hk (e ▸ hj)
 have sN : sa ≠ Y.N2 := Nat.ne_of_gt (Nat.lt_trans lN (Nat.lt_trans q1 q2))
 have xN : x ≠ Y.N2 := Nat.ne_of_gt (Nat.lt_trans lN q1)
 have dN : dx ≠ Y.N2 := Nat.ne_of_gt lN
 have sD : sa ≠ Y.dS := Nat.ne_of_gt (Nat.lt_trans lD (Nat.lt_trans q1 q2))
 have xD : x ≠ Y.dS := Nat.ne_of_gt (Nat.lt_trans lD q1)
 have dD : dx ≠ Y.dS := Nat.ne_of_gt lD
 refine ⟨U3.set _ _, up I.inst I.nS, ⟨u1, u2, u3, u4, upo, ufi, up hsd I.nd⟩, ⟨o', mem_set_self (.tail _ (.tail _ (.tail _ hN))), ?_⟩, I.nm, I.nd, I.nS, ?_, ?_, ?_, ?_, ?_, ?_, ?_, ?_⟩
 ·rw [stored_new hk] at hd
  have e : pairsOfK (Y.add k x dx sa) (keys ++ [k]) = pairsOfK Y keys ++ [(k, .ref x)] := by
   unfold pairsOfK
   rw [List.map_append]
   congr 1
   ·apply List.map_congr_left
    intro j hj
    simp [ne hj]
   ·simp
  rw [e]; exact hd
 ·rw [List.nodup_append]
  refine ⟨I.nodup, by simp, fun a ha b hb => ?_⟩
  rw [List.mem_singleton.mp hb]; exact ne ha
 ·intro j hj
  rcases List.mem_append.mp hj with hj | hj
  ·refine ex2 (I.info j hj) fun a b c => ?_
   refine ⟨a, b, ?_⟩
   simp only [if_neg (ne hj)]
   exact up c (I.iN j hj).1
  ·rw [List.mem_singleton.mp hj]
   refine ⟨t, t', ?_⟩
   simp only [if_true, (I.off k hk).1]
   exact mem_set_ne (.tail _ (.head _)) xN
 ·intro j hj
  rcases List.mem_append.mp hj with hj | hj
  ·simp only [if_neg (ne hj)]
   exact ⟨up (I.dinf j hj).1 (I.dinf j hj).2.1, (I.dinf j hj).2⟩
  ·rw [List.mem_singleton.mp hj]
   simp only [if_true]
   exact ⟨mem_set_ne (.tail _ (.tail _ (.head _))) dN, dN, dD⟩
 ·intro j hj
  rcases List.mem_append.mp hj with hj | hj
  ·simp only [if_neg (ne hj)]; exact I.iN j hj
  ·rw [List.mem_singleton.mp hj]; simp only [if_true]; exact ⟨xN, sN, xD, sD⟩
 ·intro j hj
  rcases List.mem_append.mp hj with hj | hj
  ·refine oEEA (I.suc j hj) fun vs ep a b => ?_
   refine ⟨vs, ep, ?_, b⟩
   simp only [if_neg (ne hj)]
   exact up a (I.iN j hj).2.1
  ·rw [List.mem_singleton.mp hj]
   refine ⟨[], 0, ?_, by rw [(I.off k hk).2]; exact .nil⟩
   simp only [if_true]
   exact mem_set_ne (.head _) sN
 ·have old : ∀ j ∈ keys, Y.sa j ≠ sa := fun j hj e => by
   refine oEEA (I.suc j hj) fun vs ep a _ => ?_
   exact absurd (q0 _ a) (by rw [e]; exact Nat.not_lt.mpr (Nat.le_of_lt (Nat.lt_trans q1 q2)))
  intro i hi j hj e
  rcases List.mem_append.mp hi with hi | hi <;> rcases List.mem_append.mp hj with hj | hj
  ·simp only [if_neg (ne hi), if_neg (ne hj)] at e; exact I.sinj i hi j hj e
  ·rw [List.mem_singleton.mp hj] at e; simp only [if_neg (ne hi), if_true] at e; exact absurd e (old i hi)
  ·rw [List.mem_singleton.mp hi] at e; simp only [if_neg (ne hj), if_true] at e; exact absurd e.symm (old j hj)
  ·rw [List.mem_singleton.mp hi, List.mem_singleton.mp hj]
 ·intro j hj
  exact I.off j fun h => hj (List.mem_append_left _ h)
 ·intro p hp
  refine an1 (I.rst p hp) fun a b => ?_
  have hp' := q0 p a
  refine ⟨up a fun e => b (.inr (.inr (.inl e))), ?_⟩
  rintro (f | f | f | ⟨j, hj, f⟩)
  ·exact b (.inl f)
  ·exact b (.inr (.inl f))
  ·exact b (.inr (.inr (.inl f)))
  ·rcases List.mem_append.mp hj with hj | hj
   ·simp only [if_neg (ne hj)] at f
    exact b (.inr (.inr (.inr ⟨j, hj, f⟩)))
   ·rw [List.mem_singleton.mp hj] at f
    simp only [if_true] at f
    rcases f with f | f | f
    ·exact absurd hp' (by rw [f]; exact Nat.not_lt.mpr (Nat.le_of_lt q1))
    ·exact absurd hp' (by rw [f]; exact Nat.lt_irrefl _)
    ·exact absurd hp' (by rw [f]; exact Nat.not_lt.mpr (Nat.le_of_lt (Nat.lt_trans q1 q2)))
theorem SIn.drop {a : Addr} {o : Obj} (I : SIn w news Y keys np succ rd po fi ((a, o) :: rest)) (hr : ∀ p ∈ rest, p.1 ≠ a) : SIn w (dropA news a) Y keys np succ rd po fi rest := by
 have hf := (I.rst _ (.head _)).2
 have hne : ∀ b, Foot Y keys b → b ≠ a := fun b hb e => hf (e ▸ hb)
 have up : ∀ {b : Addr} {x : Obj}, (b, x) ∈ news → b ≠ a → (b, x) ∈ dropA news a := fun h h' => List.mem_filter.mpr ⟨h, by simpa using h'⟩
 refine { I with uniq := ?_, inst := up I.inst (hne _ (.inl rfl)), sd := ?_, n2 := ?_, info := ?_, dinf := ?_, suc := ?_, rst := ?_ }
 ·exact (List.Sublist.map _ List.filter_sublist).nodup I.uniq
 ·refine ex6 (I.sd) fun t1 t2 t3 t4 tpo tfi hs => ?_
  exact ⟨t1, t2, t3, t4, tpo, tfi, up hs (hne _ (.inr (.inl rfl)))⟩
 ·refine oEA (I.n2) fun o ho hd => ?_
  exact ⟨o, up ho (hne _ (.inr (.inr (.inl rfl)))), hd⟩
 ·intro k hk
  refine ex2 (I.info k hk) fun t t' hi => ?_
  exact ⟨t, t', up hi (hne _ (.inr (.inr (.inr ⟨k, hk, .inl rfl⟩))))⟩
 ·intro k hk
  refine an1 (I.dinf k hk) fun a b => ?_
  exact ⟨up a (hne _ (.inr (.inr (.inr ⟨k, hk, .inr (.inl rfl)⟩)))), b⟩
 ·intro k hk
  refine oEEA (I.suc k hk) fun vs ep a b => ?_
  exact ⟨vs, ep, up a (hne _ (.inr (.inr (.inr ⟨k, hk, .inr (.inr rfl)⟩)))), b⟩
 ·intro p hp
  exact ⟨up (I.rst p (.tail _ hp)).1 (hr p hp), (I.rst p (.tail _ hp)).2⟩
theorem news_drop {h₀ h : Heap} {L a : Addr} {o : Obj} {l : Ledger} (N : News h₀ L h l) (h1 : (a, o) ∈ l) : News h₀ L h ((a, o) :: dropA l a) := fun p hp => by
 rcases List.mem_cons.mp hp with rfl | hp
 ·exact N _ h1
 ·exact N p (List.mem_filter.mp hp).1
theorem dropA_ne {l : Ledger} {a : Addr} : ∀ p ∈ dropA l a, p.1 ≠ a := fun p hp => by simpa using (List.mem_filter.mp hp).2
theorem SIn.start {x dx d : Addr} {o : Obj} {t1 t2 t3 t4 tpo tfi : Tok} (U : Uniq news) (l1 : ∀ p ∈ news, p.1 < dx) (l2 : dx < x) (l3 : x < d) (nm : (d == sysModules) = false) (hd : o.IsDictOf (intKind prg w) ([] : List (Int × Value))) :
  SIn w ((d, o) :: (x, instObj 197 dx) :: (dx, sDict w t1 t2 t3 t4 d .none 0 0 tpo tfi) :: news) ⟨x, dx, d, fun _ => 0, fun _ => 0, fun _ => 0⟩ [] (fun _ => 0) (fun _ => []) .none 0 0 news := by
 refine ⟨?_, .tail _ (.head _), ⟨_, _, _, _, _, _, .tail _ (.tail _ (.head _))⟩, ⟨o, .head _, hd⟩, nm, Nat.ne_of_lt (Nat.lt_trans l2 l3), Nat.ne_of_lt l3, List.nodup_nil, (fun k h => nomatch h), (fun k h => nomatch h), (fun k h => nomatch h), (fun k h => nomatch h), (fun k h => nomatch h), fun j _ => ⟨rfl, rfl⟩, ?_⟩
 ·exact ((U.cons l1).cons (List.forall_mem_cons.mpr ⟨l2, fun p hp => Nat.lt_trans (l1 p hp) l2⟩)).cons (List.forall_mem_cons.mpr ⟨l3, List.forall_mem_cons.mpr ⟨Nat.lt_trans l2 l3, fun p hp => Nat.lt_trans (l1 p hp) (Nat.lt_trans l2 l3)⟩⟩)
 ·intro p hp
  refine ⟨.tail _ (.tail _ (.tail _ hp)), ?_⟩
  have h := l1 p hp
  rintro (f | f | f | ⟨k, hk, _⟩)
  ·exact absurd h (by rw [f]; exact Nat.not_lt.mpr (Nat.le_of_lt l2))
  ·exact absurd h (by rw [f]; exact Nat.lt_irrefl _)
  ·exact absurd h (by rw [f]; exact Nat.not_lt.mpr (Nat.le_of_lt (Nat.lt_trans l2 l3)))
  ·exact nomatch hk
end
end
section
open PySem PySem.W PyProof.Rows PySem.Calls
variable {w : World} {mean : ExcName → Option Value} {mg mb : Str → Option Value} {dp un : Nat} {gd : Option (List Code)} {cn : Str} {cs : Scope} {a : Addr} {ccd : Value} {cl : List (Str × Addr)} {outer : List Env} {A₀ : Around} {base h₀ : Heap} {L : Addr} {m : Str → Option Value} {news : List (Addr × Obj)} {s : Shared} {Q E : Value → Shared → Prop}
noncomputable def addKey (keys : List Int) (k : Int) : List Int := if k ∈ keys then keys else keys ++ [k]
theorem addKey_len (keys : List Int) (k : Int) : (addKey keys k).length ≤ keys.length + 1 := by
 unfold addKey; split <;> simp
theorem mem_addKey (keys : List Int) (k : Int) : k ∈ addKey keys k := by
 unfold addKey; split
 ·assumption
 ·simp
theorem node_spec {Y : Lay} {keys : List Int} {np : Int → Int} {succ : Int → List Int} {rd : Value} {po fi : Int} {rest : Ledger} {k : Int} {tk : Tok} (B : Below A₀ base outer h₀) (F : Fr h₀ L s.heap m) (X : (Mine.hd.heap_39 w.params).In h₀) (N : News h₀ L s.heap news) (T : Top vw loose0 mean mg mb h₀) (hk : cs.kind = .function)
  (hd : dp + 19 < recursionLimit) (hu : un + 72 < cLine) (I : SIn w news Y keys np succ rd po fi rest) (hsz : keys.length ≤ 1000)
  (hret : ∀ Y' news' h' tk', Y'.S = Y.S → Y'.dS = Y.dS → Y'.N2 = Y.N2 → SIn w news' Y' (addKey keys k) np succ rd po fi rest → Fr h₀ L h' m → News h₀ L h' news' → Q (.ref (Y'.ia k)) { s with heap := h', toks := tk' }) :
  wpAny (model prg w) (ktrTop dp un gd cn cs L a ccd cl outer) (call (.ref 140) [.ref Y.S, .int k tk]) Q E s := by
 refine ex6 (I.sd) fun t1 t2 t3 t4 tpo tfi hdS => ?_
 refine oEA (I.n2) fun o2 hN2 h2 => ?_
 by_cases h : k ∈ keys
 ·refine node_old B F X N T hk hd hu I.uniq I.inst hdS hN2 h2 I.nm (by rw [valueAt_map, if_pos h]) fun h' tk' F' N' => ?_
  exact hret Y news h' tk' rfl rfl rfl (by rw [addKey, if_pos h]; exact I) F' N'
 ·refine node_new B F X N T hk hd hu I.uniq I.inst hdS hN2 h2 I.nm (by rw [valueAt_map, if_neg h]) (by rw [List.length_map, sizeLine_eq]; omega) fun dx x sa o' t0 h' tk' q0 q1 q2 hd' F' N' => ?_
  have I' := I.newKey (t := tk) (t' := t0) h q0 q1 q2 hd'
  have := hret (Y.add k x dx sa) _ h' tk' rfl rfl rfl (by rw [addKey, if_neg h]; exact I') F' N'
  simpa using this
end
section
open PySem PySem.W PyProof.Rows PySem.Calls
variable {w : World} {mean : ExcName → Option Value} {mg mb : Str → Option Value} {dp un : Nat} {gd : Option (List Code)} {cn : Str} {cs : Scope} {a : Addr} {ccd : Value} {cl : List (Str × Addr)} {outer : List Env} {A₀ : Around} {base h₀ : Heap} {L : Addr} {m : Str → Option Value} {news : List (Addr × Obj)} {s : Shared} {Q E : Value → Shared → Prop}
theorem foldl_addKey_len : ∀ (ps : List Int) (keys : List Int), (ps.foldl addKey keys).length ≤ keys.length + ps.length
 | [], keys => Nat.le_refl _
 | p :: ps, keys => by
  have h1 := foldl_addKey_len ps (addKey keys p)
  have h2 := addKey_len keys p
  rw [List.foldl_cons, List.length_cons]; omega
theorem add_code {Y : Lay} {keys : List Int} {np : Int → Int} {succ : Int → List Int} {po fi : Int} {rest : Ledger} {k : Int} {tk : Tok} {ws : List Value} {ps : List Int} (B : Below A₀ base outer h₀) (F : Fr h₀ L s.heap m) (X : (Mine.hd.heap_39 w.params).In h₀) (N : News h₀ L s.heap news) (T : Top vw loose0 mean mg mb h₀) (hk : cs.kind = .function)
  (hd : dp + 49 < recursionLimit) (hu : un + 372 < cLine) (hws : IntsAre ws ps) (hps : ps.length ≤ 2) (I : SIn w news Y keys np succ .none po fi rest) (hsz : keys.length ≤ 900) (hsl : ∀ j, (succ j).length ≤ 900)
  (hret : ∀ Y' news' h' tk', Y'.S = Y.S → Y'.dS = Y.dS → Y'.N2 = Y.N2 → SIn w news' Y' (ps.foldl addKey (addKey keys k)) (fun j => if j = k then np k + ps.length else np j) (fun j => succ j ++ List.replicate (ps.count j) k) .none po fi rest → Fr h₀ L h' m → News h₀ L h' news' → Q .none { s with heap := h', toks := tk' }) :
  codeAny (model prg w) (ktrTop dp un gd cn cs L a ccd cl outer) (.call (.ref 147) ⟨.ref Y.S :: .int k tk :: ws, []⟩) (fun r s' => match r with | .ok (.ret v) => Q v s' | .ok _ => False | .error e => E e s') s := by
 have hlen := hws.length
 all_goals (
  refine' kp_rest (vs := ws) (binds := fun D => [(Str.ofString "self", .ref Y.S), (Str.ofString "node", .int k tk), (Str.ofString "predecessors", .ref D)]) (g₁ := fun D => some [(Str.ofString "self", .ref Y.S), (Str.ofString "node", .int k tk), (Str.ofString "predecessors", .ref D)]) ?k1 ?k2 ?k3 ?k4 ?k5 ?kA ?kF ?kK ?k6 ?k7 ?k8 ?kV ?kP ?kG ?kB ?_ ?c2 ?c3 ?c4 ?c5
  (case kA => exact rfl)
  (case kF => exact rfl)
  (case kK => first | assumption | exact rfl)
  (case k1 => k_asm)
  (case k2 => k_asm)
  (case k3 => k_asm)
  (case k4 => k_asm)
  (case k5 => k_asm)
  (case k6 => k_is)
  (case k7 => k_is)
  (case k8 => ktr_room)
  (case kV => exact rfl)
  (case kP =>
   rcases ws with _ | ⟨w1, _ | ⟨w2, _ | ⟨w3, wr⟩⟩⟩
   ·exact rfl
   ·exact rfl
   ·exact rfl
   ·simp at hlen; omega)
  (case kG => exact fun _ => rfl)
  (case kB => exact fun _ => locs rfl)
  (case c5 => decide)
  (case c2 => exact rfl)
  (case c3 => exact rfl)
  (case c4 => exact rfl))
 all_goals (
  intro D' g' L' h' l1 FG' F' N' B' X' T'
  (try dsimp only)
  (try k_fold)
  refine wpAny_noRaise ?_
  clear F N
  replace F' : Fr g' L' h' (fun z => List.lookup z [(Str.ofString "predecessors", Value.ref D'), (Str.ofString "node", Value.int k tk), (Str.ofString "self", Value.ref Y.S)]) := F'
  refine oEA ((⟨_, N', hws⟩ : ∃ vs : List Value, News g' L' h' ((D', tupOf vs) :: news) ∧ IntsAre vs ps)) fun vs hvs hwv => ?_
  clear hws N' hlen
  have I1 := I.cons (o := tupOf vs) (fun p hp => Nat.ne_of_lt (l1 p hp))
  have hD : (D', tupOf vs) ∈ (D', tupOf vs) :: rest := .head _
  generalize (D', tupOf vs) :: news = news1 at hvs I1
  generalize hr1 : (D', tupOf vs) :: rest = rest1 at hD I1
  clear I l1)
 all_goals (
  have hS := I1.inst
  refine ex6 (I1.sd) fun t1 t2 t3 t4 tpo tfi hdS => ?_
  have hD1 := (I1.rst _ hD).1
  repeat' first | (k_unfold; (try dsimp only)) | ((fail_if_success (with_reducible first | refine WG ?_ | refine FG ?_)); first | ((with_reducible show wpAny _ _ (call (Value.ref 140) _) _ _ _); k_dflt (refine' node_spec (by k_asm) (by k_asm) (by k_asm) (by k_asm) (by k_asm) (by first | exact rfl | assumption) (by ktr_room) (by ktr_units) (by with_reducible assumption) (by first | assumption | omega) ?_; intro _ _ _ _ _ _ _ _ _ _; (try dsimp only))) | ((with_reducible show wpAny _ _ (eval (Expr.Name _ _) _) _ _ _); k_dflt refine' ld (by k_asm) (by first | exact Has.get (by with_reducible assumption) (by exact rfl) | exact rfl) ?_) | ((with_reducible refine execs_cons_gen ?_); intro _; (try dsimp only)) | ((with_reducible refine execs_nil_gen ?_); intro _; (try dsimp only)) | walk1 | (dsimp only; walk1))
  (with_reducible rename SIn _ _ _ _ _ _ _ _ _ _ => I2)
  (with_reducible rename Lay.S _ = Y.S => e1); (with_reducible rename Lay.dS _ = Y.dS => e2); (with_reducible rename Lay.N2 _ = Y.N2 => e3)
  have hkk := mem_addKey keys k
  refine ex2 (I2.info k hkk) fun ti tn hi => ?_
  have hdi := (I2.dinf k hkk).1
  have U2 := I2.uniq
  have hD2 := (I2.rst _ hD).1
  repeat' first | (k_unfold; (try dsimp only)) | ((fail_if_success (with_reducible first | refine WG ?_ | refine FG ?_)); first | ((with_reducible show wpAny _ _ (call (Value.builtin "len") [Value.ref _]) _ _ _); k_dflt refine' len_tupK (by k_asm) (by k_mem) (by with_reducible assumption) (by omega) ?_) | ((with_reducible show wpAny _ _ (eval (Expr.Name _ _) _) _ _ _); k_dflt refine' ld (by k_asm) (by first | exact Has.get (by with_reducible assumption) (by exact rfl) | exact rfl) ?_) | ((with_reducible refine execs_cons_gen ?_); intro _; (try dsimp only)) | walk1 | (dsimp only; walk1))
  refine For_enter ?_
  repeat' first | (k_unfold; (try dsimp only)) | ((fail_if_success (with_reducible first | refine WG ?_ | refine FG ?_)); first | ((with_reducible show wpAny _ _ (eval (Expr.Name _ _) _) _ _ _); k_dflt refine' ld (by k_asm) (by first | exact Has.get (by with_reducible assumption) (by exact rfl) | exact rfl) ?_) | walk1 | (dsimp only; walk1))
  (with_reducible rename Fr _ _ _ _ => kF); (with_reducible rename News _ _ _ _ => kN)
  have I3 := fun t' => I2.setNp (t := ti) (t' := t') (v := np k + ps.length) hkk
  refine letX3_1_6eio (fun i m₁ news₁ => ∃ Yi : Lay, Yi.S = Y.S ∧ Yi.dS = Y.dS ∧ Yi.N2 = Y.N2 ∧ SIn w news₁ Yi ((ps.take i).foldl addKey (addKey keys k)) (fun j => if j = k then np k + ps.length else np j) (fun j => succ j ++ List.replicate ((ps.take i).count j) k) .none po fi rest1 ∧ Has m₁ (Str.ofString "self") (.ref Yi.S) ∧ Has m₁ (Str.ofString "node") (.int k tk) : Nat → FMap → Ledger → Prop) (fun _ _ _ => .rfl) fun J hJ hJi hJo => ?_
  refine ForAt_tuple (items := vs) J (by rfl) ⟨_, kN.get (mem_set_ne hD2 ?_), rfl, _, rfl⟩ kF kN ?_ ?_ ?_ ?_
  ·exact fun e => (I2.rst _ hD).2 (e ▸ .inr (.inr (.inr ⟨k, hkk, .inl rfl⟩)))
  ·exact hJi _ _ _ _ (e1) (e2) (e3) (by simpa using I3 _) (⟨by rw [e1]; rfl⟩) (⟨rfl⟩)
  ·intro i h m₁ news₁ F₁ N₁ hj
   rw [hJ] at hj
   refine oEAAAA (hj) fun Yi _ _ _ Ii _ => ?_
   try clear hj
   exact ⟨_, N₁.get (Ii.rst _ hD).1, rfl, _, rfl⟩
  ·intro i v m₁ news₁ h₁ tk₁ I' it hv hj hne F₁ N₁
   dsimp only [envOf] at F₁ N₁
   refine hJo _ _ _ hj _ fun Yi f1 f2 f3 Ii m1 m2 => ?_
   clear hj
   refine oEEA (hwv.at i v hv) fun p tp er1 hp => ?_
   subst er1
   clear kF kN hi hdi hS hdS hD1 I1 I2 I3 U2 hD2
   have I4 := Ii.cons (o := it) hne
   have hrI : ∀ q ∈ rest1, q.1 ≠ I' := fun q hq => hne q (Ii.rst q hq).1
   generalize (I', it) :: news₁ = news2 at N₁ I4
   have hS := I4.inst
   refine ex6 (I4.sd) fun t1 t2 t3 t4 tpo tfi hdS => ?_
   have hln : (List.foldl addKey (addKey keys k) (List.take i ps)).length ≤ 1000 := by
    have h1 := foldl_addKey_len (List.take i ps) (addKey keys k)
    have h2 := addKey_len keys k
    have h3 : (List.take i ps).length ≤ ps.length := List.length_take_le' ..
    omega
   repeat' first | (k_unfold; (try dsimp only)) | ((fail_if_success (with_reducible first | refine WG ?_ | refine FG ?_)); first | ((with_reducible show wpAny _ _ (call (Value.ref 140) _) _ _ _); k_dflt (refine' node_spec (by k_asm) (by k_asm) (by k_asm) (by k_asm) (by k_asm) (by first | exact rfl | assumption) (by ktr_room) (by ktr_units) (by with_reducible assumption) (by first | assumption | omega) ?_; intro _ _ _ _ _ _ _ _ _ _; (try dsimp only))) | ((with_reducible show wpAny _ _ (eval (Expr.Name _ _) _) _ _ _); k_dflt refine' ld (by k_asm) (by first | exact Has.get (by with_reducible assumption) (by exact rfl) | exact rfl) ?_) | ((with_reducible refine execs_cons_gen ?_); intro _; (try dsimp only)) | walk1 | (dsimp only; walk1))
   (with_reducible rename SIn _ _ _ _ _ _ _ _ _ _ => I5)
   (with_reducible rename Lay.S _ = Lay.S Yi => e1); (with_reducible rename Lay.dS _ = Lay.dS Yi => e2); (with_reducible rename Lay.N2 _ = Lay.N2 Yi => e3)
   have hpp := mem_addKey (List.foldl addKey (addKey keys k) (List.take i ps)) p
   refine ex2 (I5.info p hpp) fun ti tn hi => ?_
   have hdi := (I5.dinf p hpp).1
   have U5 := I5.uniq
   refine oEEA (I5.suc p hpp) fun us eu hus husI => ?_
   have hul : us.toArray.size ≤ sizeLine := by
    have := husI.length
    have := hsl p
    have := (List.count_le_length (a := p) (l := List.take i ps))
    have : (List.take i ps).length ≤ ps.length := List.length_take_le' ..
    rw [sizeLine_eq, List.size_toArray, husI.length, List.length_append, List.length_replicate]
    omega
   repeat' first | (k_unfold; (try dsimp only)) | ((fail_if_success (with_reducible first | refine WG ?_ | refine FG ?_)); first | ((with_reducible show wpAny _ _ (eval (Expr.Name _ _) _) _ _ _); k_dflt refine' ld (by k_asm) (by first | exact Has.get (by with_reducible assumption) (by exact rfl) | exact rfl) ?_) | ((with_reducible refine execs_nil_gen ?_); intro _; (try dsimp only)) | walk1 | (dsimp only; walk1))
   (with_reducible rename Fr _ _ _ _ => kF); (with_reducible rename News _ _ _ _ => kN)
   rw [List.push_toArray] at kN
   have I6 := I5.addSucc (ep := eu + 1) hpp (intsAre_push (x := k) (t := tk) husI)
   have ht : ps.take (i + 1) = ps.take i ++ [p] := by rw [List.take_add_one, hp]; rfl
   have ek : addKey (List.foldl addKey (addKey keys k) (List.take i ps)) p = List.foldl addKey (addKey keys k) (List.take (i + 1) ps) := by rw [ht, List.foldl_append]; rfl
   have es : (fun j => if j = p then (succ j ++ List.replicate (List.count j (List.take i ps)) k) ++ [k] else succ j ++ List.replicate (List.count j (List.take i ps)) k) = fun j => succ j ++ List.replicate (List.count j (List.take (i + 1) ps)) k := by
    funext j
    rw [ht, List.count_append]
    by_cases e : j = p
    ·subst e; rw [if_pos rfl, List.append_assoc, List.count_singleton_self, List.replicate_succ']
    ·rw [if_neg e, List.count_singleton, if_neg (by simpa using Ne.symm e)]; simp
   rw [ek, es] at I6
   refine FPost.next kF (news_drop kN (I6.rst _ (.head _)).1) dropA_ne ?_
   exact hJi _ _ _ _ (e1.trans f1) (e2.trans f2) (e3.trans f3) (I6.drop hrI) (⟨by rw [e1]; exact m1.out⟩) (⟨m2.out⟩)
  ·intro m₁ news₁ h₁ tk₁ hj F₁ N₁
   dsimp only [envOf] at F₁ N₁
   refine hJo _ _ _ hj _ fun Yi f1 f2 f3 Ii m1 m2 => ?_
   clear hj
   clear kF kN
   repeat' first | (k_unfold; (try dsimp only)) | ((fail_if_success (with_reducible first | refine WG ?_ | refine FG ?_)); first | ((with_reducible refine execs_nil_gen ?_); intro _; (try dsimp only)) | walk1 | (dsimp only; walk1))
   have ht : ps.take vs.length = ps := by rw [hwv.length, List.take_length]
   rw [ht] at Ii
   exact hret Yi _ _ _ f1 f2 f3 (Ii.sub fun p hp => by rw [← hr1]; exact .tail _ hp) (by k_asm) (by k_asm))
end
section
open PySem PySem.W PyProof.Rows PySem.Calls
theorem frK {h₀ H h : Heap} {L it : Addr} {m : FMap} {news : Ledger} (F : Fr h₀ L H m) (N : News h₀ L H news) (hL : L ≠ it) (hI : h₀.get? it = none) (hn : ∀ p ∈ news, p.1 ≠ it) (hk : ∀ b o, b ≠ it → H.get? b = some o → h.get? b = some o) :
  Fr h₀ L h m ∧ News h₀ L h news :=
 ⟨⟨F.ns.at' fun o e => hk _ o hL e, fun b o e => hk b o (by rintro rfl; rw [hI] at e; cases e) (F.keep b o e), F.above⟩, fun p hp => ⟨hk _ _ (hn p hp) (N p hp).1, (N p hp).2⟩⟩
section
variable {prog : Program} {w : World} {A : Around} {Q : Flow → Shared → Prop} {s : Shared} {env : Env} {h₀ : Heap} {m : FMap} {news : Ledger} {K : Type} [DecidableEq K] {knd : KeyKind prog w K}
theorem ForAt_items {xk xv : Str} {pk pv pt : Pos} {x1} {body : List Stmt} {v d : Addr} {kvs : List (K × Value)} {ep : Nat} (J : Nat → FMap → Ledger → Prop)
  (hh : A.handled = none) (hxk : env.kindOf xk = some .local) (hxv : env.kindOf xv = some .local)
  (hp : (env.scope.kind == .class || (env.scope.kind == .module && env.locals != env.globals)) = false)
  (hview : s.heap.IsItemsView v d) (hd : s.heap.DictAt knd d kvs ep) (F : Fr h₀ env.locals s.heap m) (N : News h₀ env.locals s.heap news) (h0 : J 0 m news)
  (keep : ∀ i h m₁ news₁, Fr h₀ env.locals h m₁ → News h₀ env.locals h news₁ → J i m₁ news₁ → h.DictAt knd d kvs ep)
  (turn : ∀ i k x key m₁ news₁ h₁ tk₁ I it, kvs[i]? = some (k, x) → knd.is k key = true → J i m₁ news₁ → (∀ p ∈ news₁, p.1 ≠ I) → Fr h₀ env.locals h₁ (upd (upd m₁ xk key) xv x) → News h₀ env.locals h₁ ((I, it) :: news₁) →
   wpAny (model prog w) A (execs body env) (FPost h₀ env.locals s J I it i Q) NoE { s with heap := h₁, toks := tk₁ })
  (done : ∀ m₁ news₁ h₁ tk₁, J kvs.length m₁ news₁ → Fr h₀ env.locals h₁ m₁ → News h₀ env.locals h₁ news₁ → Q .next { s with heap := h₁, toks := tk₁ }) :
  ForAt prog w A (.Tuple [.Name xk pk, .Name xv pv] x1 pt) body [] env Q (.ref v) s := by
 have hdlt : d < s.heap.objs.size := hd.lt_size
 refine wpAny_pyIter_items hview hd ?_
 generalize hIe : s.heap.objs.size = I
 have hL : env.locals ≠ I := hIe ▸ Nat.ne_of_lt (locals_lt F)
 have hI : h₀.get? I = none := hIe ▸ fresh_none F
 have hdi : d ≠ I := hIe ▸ Nat.ne_of_lt hdlt
 refine codeAny_forLoop_any
  (fun n s' => ∃ h' tk m' news' i ok ov, s' = { s with heap := h', toks := tk } ∧ IsItemIter h' I d i kvs.length ep ok ov ∧ h'.DictAt knd d kvs ep ∧ Fr h₀ env.locals h' m' ∧ News h₀ env.locals h' news' ∧ (∀ p ∈ news', p.1 ≠ I) ∧ J i m' news' ∧ i ≤ kvs.length ∧ n = kvs.length + 1 - i) ?_ (kvs.length + 1)
  ⟨_, s.toks, m, news, 0, .none, .none, rfl, by rw [← hIe]; exact Heap.get?_push_size _ rfl, hd.at fun o e => Heap.get?_push_of_some _ e, F.push _, fun p hp => ⟨Heap.get?_push_of_some _ (N p hp).1, (N p hp).2⟩, fun p hp => hIe ▸ Nat.ne_of_lt (Heap.lt_size (N p hp).1), h0, Nat.zero_le _, rfl⟩
 intro n s' hz9
 refine oEEEEEEEAAAAAAAA (hz9) fun H tk m' news' i ok ov er1 hit' hm' F' N' hn' hJ hi er2 => ?_
 try clear hz9
 subst er1
 subst er2
 cases hv : kvs[i]? with
 | none =>
  have hsz : i = kvs.length := Nat.le_antisymm hi (by simpa using hv)
  refine wpAny_pyNext_items_end hh hit' hm' hv fun h₁ he₁ => wpAny_execs_nil ?_
  refine an1 (frK F' N' hL hI hn' (fun b o hb e => he₁ b o hb e)) fun F₁ N₁ => ?_
  exact done m' news' h₁ tk (hsz ▸ hJ) F₁ N₁
 | some kv =>
  obtain ⟨k, x⟩ := kv
  have hlt : i < kvs.length := (List.getElem?_eq_some_iff.mp hv).1
  have hiH : I < H.objs.size := Heap.lt_size hit'
  refine wpAny_pyNext_items_item hit' hm' hv fun key h₁ hkey heo ht₁ hz₁ hk₁ => ?_
  refine wpAny_letOwnedTupleGo_items heo fun h₂ he₂ hs₂ => ?_
  replace hs₂ : Heap.SameBut I h₁ h₂ := hs₂
  have ht₂ : h₂.IsTuple H.objs.size #[key, x] := ⟨_, (hs₂.2 _ (Nat.ne_of_gt hiH)).trans ht₁, rfl, _, rfl⟩
  have hz₂ : h₂.objs.size = H.objs.size + 1 := hs₂.1.trans hz₁
  refine wpAny_assign_Tuple hh ht₂ rfl rfl fun h₃ hx₃ => ?_
  replace hx₃ : Heap.ExtBut h₂.objs.size h₂ h₃ := hx₃
  have old₃ : ∀ b o, b < H.objs.size → h₂.get? b = some o → h₃.get? b = some o := fun b o hb e => hx₃ b o (by rw [hz₂]; exact Nat.ne_of_lt (Nat.lt_succ_of_lt hb)) e
  refine an1 (frK (h := h₃) F' N' hL hI hn' (fun b o hb e => old₃ b o (Heap.lt_size e) (hs₂.extBut b o hb (hk₁ b o hb e)))) fun F₃ N₃ => ?_
  have it₃ : IsItemIter h₃ I d (i + 1) kvs.length ep key x := old₃ I _ hiH he₂
  show wpAny _ _ (do holding [x] (assign (.Name xk pk) env key); do holding [] (assign (.Name xv pv) env x); pure ()) _ _ _
  refine wpAny_bind (wpAny_holding (wpAny_assign_Name (wpAny_storeName_local hxk F₃.ns (fun h₄ hn₄ hs₄ => ?_) hp)))
  have F₄ := F₃.set hn₄ hs₄
  have N₄ := N₃.set hs₄
  have it₄ : IsItemIter h₄ I d (i + 1) kvs.length ep key x := (hs₄.2 I (Ne.symm hL)).trans it₃
  refine wpAny_bind (wpAny_holding (wpAny_assign_Name (wpAny_storeName_local hxv F₄.ns (fun h₅ hn₅ hs₅ => wpAny_pure ?_) hp)))
  have F₅ := F₄.set hn₅ hs₅
  have N₅ := N₄.set hs₅
  have it₅ : IsItemIter h₅ I d (i + 1) kvs.length ep key x := (hs₅.2 I (Ne.symm hL)).trans it₄
  refine oEA ((⟨_, it₅, fun h e => e⟩ : ∃ o, h₅.get? I = some o ∧ ∀ h : Heap, h.get? I = some o → IsItemIter h I d (i + 1) kvs.length ep key x)) fun itO hio hback => ?_
  refine wpAny_mono (turn i k x key m' news' h₅ _ I itO hv hkey hJ hn' F₅ (fun p hp => ?_)) (fun f s₃ h₃ => ?_) fun _ _ h => h.elim
  ·rcases List.mem_cons.mp hp with rfl | hp
   ·exact ⟨hio, Ne.symm hL, hI⟩
   ·exact N₅ p hp
  ·have go : (∃ h' tk m' news', s₃ = { s with heap := h', toks := tk } ∧ Fr h₀ env.locals h' m' ∧ News h₀ env.locals h' ((I, itO) :: news') ∧ (∀ p ∈ news', p.1 ≠ I) ∧ J (i + 1) m' news') →
     ∃ m_1, m_1 < kvs.length + 1 - i ∧ ∃ h' tk m' news' i ok ov, s₃ = { s with heap := h', toks := tk } ∧ IsItemIter h' I d i kvs.length ep ok ov ∧ h'.DictAt knd d kvs ep ∧ Fr h₀ env.locals h' m' ∧ News h₀ env.locals h' news' ∧ (∀ p ∈ news', p.1 ≠ I) ∧ J i m' news' ∧ i ≤ kvs.length ∧ m_1 = kvs.length + 1 - i := by
    intro hz9
    refine oEEEEAAAA (hz9) fun h₆ tk₆ m₆ news₆ er3 F₆ N₆ hn₆ hJ₆ => ?_
    try clear hz9
    subst er3
    exact ⟨kvs.length + 1 - (i + 1), by omega, h₆, tk₆, m₆, news₆, i + 1, key, x, rfl, hback _ (N₆ _ (.head _)).1, keep (i + 1) h₆ m₆ news₆ F₆ (fun p hp => N₆ p (.tail _ hp)) hJ₆, F₆, fun p hp => N₆ p (.tail _ hp), hn₆, hJ₆, hlt, rfl⟩
   cases f with
   | ret v => exact h₃
   | brk => exact h₃
   | cont => exact go h₃
   | next => exact go h₃
end
section
variable {M : Model} {A : Around} {E : Value → Shared → Prop} {s : Shared} {env : Env}
theorem methodCall_star {o : PySem.Expr} {name : Str} {apos pos : Pos} {args : List PySem.Expr} {Q : Value → Shared → Prop}
  (h : wpAny M A (eval o env) (fun ov s₁ => wpAny M A (getAttr ov name true) (fun f s₂ => wpAny M A (callWith pos f [] (backTo pos (starEach args env)) []) Q E s₂) E s₁) E s)
  (he : eval (.Call (.Attribute o name apos) args [] pos) env = (do
   let ov ← eval o env
   standAt apos.atName
   let fx ← holding [ov] (do pure (← getAttr ov name true, ([] : List Value)))
   callWith pos fx.1 fx.2 (backTo pos (starEach args env)) []) := by rfl) :
  wpAny M A (eval (.Call (.Attribute o name apos) args [] pos) env) Q E s := by
 rw [he]
 exact wpAny_bind (wpAny_mono h (fun ov s₁ h₁ => wpAny_bind (wpAny_standAt (wpAny_bind (wpAny_holding (wpAny_bind (wpAny_mono h₁ (fun f s₂ h₂ => wpAny_pure h₂) fun _ _ x => x)))))) fun _ _ x => x)
end
section
variable {prog : Program} {w : World} {A : Around} {E : Value → Shared → Prop} {s : Shared} {env : Env} {K : Frag} {Q : Value → Shared → Prop} {h₀ : Heap} {L : Addr} {news : Ledger}
theorem callWith_MS {q f : Addr} {self : Value} {e : PySem.Expr} {rest : List PySem.Expr} {pos : Pos} (hf : fnIn K f = true)
  (h : wpAny (model prog w) A (spliced (backTo pos (starEach (e :: rest) env))) (fun vs s₁ => MethP K q f self s₁.heap ∧ codeAny (model prog w) A (.call (.ref f) ⟨self :: vs, []⟩) (fun r s' => match r with | .ok (.ret v) => Q v s' | .ok _ => False | .error e => E e s') s₁) E s)
  (he : starEach (e :: rest) env = (false, eval e env) :: starEach rest env := by rfl) (hst : (backTo pos (starEach rest env)).any (·.1) = true := by rfl) :
  wpAny (model prog w) A (callWith pos (.ref q) [] (backTo pos (starEach (e :: rest) env)) []) Q E s := by
 rw [he] at h ⊢
 refine ks_call (by show (false || (backTo pos (starEach rest env)).any (·.1)) = true; rw [hst]; rfl) (keeps_M hf) (evalArgs_plain (wpAny_mono h (fun vs s₁ h₁ => ⟨h₁.1, ?_⟩) fun _ _ x => x))
 exact wpAny_call (method_call h₁.1.1 h₁.2)
end
end
section
open PySem PySem.W PyProof.Rows PySem.Calls
variable {w : World} {mean : ExcName → Option Value} {mg mb : Str → Option Value} {dp un : Nat} {gd : Option (List Code)} {cn : Str} {cs : Scope} {a : Addr} {ccd : Value} {cl : List (Str × Addr)} {outer : List Env} {A₀ : Around} {base h₀ : Heap} {L : Addr} {m : Str → Option Value} {news : List (Addr × Obj)} {s : Shared} {Q E : Value → Shared → Prop}
noncomputable def rng (n : Nat) : List Int := (List.range n).map fun (i : Nat) => (i : Int)
structure NeedsIn (w : World) (rest : Ledger) (nd : Addr) (n : Nat) (la : Int → Addr) (need : Int → List Int) : Prop where
 dict : ∃ o, (nd, o) ∈ rest ∧ o.IsDictOf (intKind prg w) ((rng n).map fun k => (k, Value.ref (la k)))
 nm : (nd == sysModules) = false
 lists : ∀ k ∈ rng n, ∃ vs ep, (la k, listOf vs.toArray ep) ∈ rest ∧ IntsAre vs (need k)
 small : ∀ k ∈ rng n, (need k).length ≤ 2
noncomputable def keysAt (need : Int → List Int) (i : Nat) : List Int := (rng i).foldl (fun keys k => (need k).foldl addKey (addKey keys k)) []
noncomputable def npAt (need : Int → List Int) (i : Nat) (j : Int) : Int := if j ∈ rng i then ((need j).length : Int) else 0
noncomputable def succAt (need : Int → List Int) (i : Nat) (j : Int) : List Int := (rng i).flatMap fun k => List.replicate ((need k).count j) k
theorem rng_succ (i : Nat) : rng (i + 1) = rng i ++ [(i : Int)] := by unfold rng; rw [List.range_succ, List.map_append]; rfl
theorem mem_rng {n : Nat} {k : Int} : k ∈ rng n ↔ 0 ≤ k ∧ k < n := by
 unfold rng
 rw [List.mem_map]
 constructor
 ·rintro ⟨i, hi, rfl⟩
  rw [List.mem_range] at hi
  omega
 ·rintro ⟨h0, h1⟩
  exact ⟨k.toNat, by rw [List.mem_range]; omega, by omega⟩
theorem rng_mono {i n : Nat} (h : i ≤ n) {k : Int} (hk : k ∈ rng i) : k ∈ rng n := by
 rw [mem_rng] at hk ⊢; omega
theorem keysAt_len (need : Int → List Int) : ∀ (i : Nat), (∀ k ∈ rng i, (need k).length ≤ 2) → (keysAt need i).length ≤ 3 * i
 | 0, _ => by simp [keysAt, rng]
 | i + 1, h => by
  have ih := keysAt_len need i (fun k hk => h k (rng_mono (Nat.le_succ i) hk))
  have e : keysAt need (i + 1) = (need (i : Int)).foldl addKey (addKey (keysAt need i) (i : Int)) := by unfold keysAt; rw [rng_succ, List.foldl_append]; rfl
  have h1 := foldl_addKey_len (need (i : Int)) (addKey (keysAt need i) (i : Int))
  have h2 := addKey_len (keysAt need i) (i : Int)
  have h3 := h (i : Int) (by rw [mem_rng]; omega)
  rw [e]; omega
theorem succAt_succ (need : Int → List Int) (i : Nat) (j : Int) : succAt need (i + 1) j = succAt need i j ++ List.replicate ((need (i : Int)).count j) (i : Int) := by
 unfold succAt; rw [rng_succ, List.flatMap_append]; simp
theorem succAt_len (need : Int → List Int) : ∀ (i : Nat) (j : Int), (∀ k ∈ rng i, (need k).length ≤ 2) → (succAt need i j).length ≤ 2 * i
 | 0, j, _ => by simp [succAt, rng]
 | i + 1, j, h => by
  have ih := succAt_len need i j (fun k hk => h k (rng_mono (Nat.le_succ i) hk))
  have h3 := h (i : Int) (by rw [mem_rng]; omega)
  have h4 := List.count_le_length (a := j) (l := need (i : Int))
  rw [succAt_succ, List.length_append, List.length_replicate]; omega
theorem stepAt (need : Int → List Int) (i : Nat) : keysAt need (i + 1) = (need (i : Int)).foldl addKey (addKey (keysAt need i) (i : Int)) ∧
  npAt need (i + 1) = (fun j => if j = (i : Int) then npAt need i (i : Int) + ((need (i : Int)).length : Int) else npAt need i j) ∧ succAt need (i + 1) = fun j => succAt need i j ++ List.replicate ((need (i : Int)).count j) (i : Int) := by
 refine ⟨by unfold keysAt; rw [rng_succ, List.foldl_append]; rfl, ?_, funext fun j => succAt_succ need i j⟩
 funext j
 unfold npAt
 by_cases e : j = (i : Int)
 ·subst e
  rw [if_pos (by rw [mem_rng]; omega), if_pos rfl, if_neg (by rw [mem_rng]; omega)]; omega
 ·rw [if_neg e]
  by_cases hj : j ∈ rng i
  ·rw [if_pos hj, if_pos (rng_mono (Nat.le_succ i) hj)]
  ·rw [if_neg hj, if_neg (by rw [rng_succ, List.mem_append]; simp [hj, e])]
theorem intKey {w : World} {k : Int} {key : Value} (h : (intKind prg w).is k key = true) : ∃ t, key = .int k t := Value.isInt_shape h
theorem make_spec {nd : Addr} {n : Nat} {la : Int → Addr} {need : Int → List Int} (B : Below A₀ base outer h₀) (F : Fr h₀ L s.heap m) (X : (Mine.hd.heap_39 w.params).In h₀) (N : News h₀ L s.heap news) (T : Top vw loose0 mean mg mb h₀) (hk : cs.kind = .function)
  (hd : dp + 69 < recursionLimit) (hu : un + 672 < cLine) (U : Uniq news) (hN : NeedsIn w news nd n la need) (hn : n ≤ 6)
  (hret : ∀ Y news' h' tk', SIn w news' Y (keysAt need n) (npAt need n) (succAt need n) .none 0 0 news → Fr h₀ L h' m → News h₀ L h' news' → Q (.ref Y.S) { s with heap := h', toks := tk' }) :
  wpAny (model prg w) (ktrTop dp un gd cn cs L a ccd cl outer) (call (.ref 197) [.ref nd]) Q E s := by
 k_dflt (refine' call_cls ?k1 ?k2 ?k3 ?k4 ?k5 ?k6 ?_; (case k1 => k_asm); (case k2 => k_asm); (case k3 => k_asm); (case k4 => k_is); (case k5 => k_is); (case k6 => k_is))
 intro x dx h' F' N' l1 l2
 k_lt2 l2
 clear F N
 k_dflt (refine' code_def ?k1u1 ?k2u1 ?k3u1 ?k4u1 ?k5u1 ?kAu1 ?kFu1 ?kKu1 ?k6u1 ?k7u1 ?k8u1 ?k9u1 ?kBu1 ?_ ?c2u1 ?c3u1 ?c4u1 ?c5u1; (case kAu1 => exact rfl); (case kFu1 => exact rfl); (case kKu1 => first | assumption | exact rfl); (case k1u1 => k_asm); (case k2u1 => k_asm); (case k3u1 => k_asm); (case k4u1 => k_asm); (case k5u1 => k_asm); (case k6u1 => k_is); (case k7u1 => k_is); (case k8u1 => ktr_room); (case k9u1 => first | exact BindsTo.of_eq rfl | exact binds_K (by k_in) rfl (by k_is) rfl rfl rfl | (refine' kp_binds ?kxu1 ?keu1; (case kxu1 => k_in); (case keu1 => exact fun _ => rfl))); (case c5u1 => decide); (case kBu1 => exact locs rfl); (case c2u1 => exact rfl); (case c3u1 => exact rfl); (case c4u1 => exact rfl); k_whole; intro _ _ _ _ _ _ zzB' _ _; (try dsimp only); (try k_lift zzB'); (try k_fold))
 refine wpAny_noRaise ?_
 refine oEA (hN.dict) fun o hno hdo => ?_
 repeat' first | (k_unfold; (try dsimp only)) | ((fail_if_success (with_reducible first | refine WG ?_ | refine FG ?_)); first | ((with_reducible show wpAny _ _ (eval (Expr.Name _ _) _) _ _ _); k_dflt refine' ld (by k_asm) (by first | exact Has.get (by with_reducible assumption) (by exact rfl) | exact rfl) ?_) | ((with_reducible refine execs_cons_gen ?_); intro _; (try dsimp only)) | walk1 | (dsimp only; walk1))
 (with_reducible rename _ < _ ∧ _ < _ ∧ AllLt _ news => q1)
 (with_reducible rename (_ == sysModules) = false => q2)
 (with_reducible rename Obj.IsDictOf (intKind _ _) _ [] => q3)
 (with_reducible rename Fr _ _ _ _ => kF); (with_reducible rename News _ _ _ _ => kN)
 have I0 := fun t1 t2 t3 t4 tpo tfi => SIn.start (t1 := t1) (t2 := t2) (t3 := t3) (t4 := t4) (tpo := tpo) (tfi := tfi) U l1 l2 q1.1 q2 q3
 refine For_enter ?_
 refine wpAny_Call_items (knd := intKind _ _) hN.nm (Heap.dictOf_iff.mpr ⟨o, (kN _ (.tail _ (.tail _ (.tail _ hno)))).1, hdo⟩) rfl rfl (fun Q' hq => ld kF rfl hq) ?_
 refine oEEAAAA (id hdo) fun es ep hex hes hK hP hnd => ?_
 have hat : ∀ {h : Heap} {L : Addr} {l : Ledger} {g : Heap}, News g L h l → (nd, o) ∈ l → h.DictAt (intKind prg w) nd ((rng n).map fun k => (k, Value.ref (la k))) ep := fun N h => ⟨o, es, (N _ h).1, hex, hes, hK, hP, hnd⟩
 refine letX3_1_3eio (fun i m₁ news₁ => ∃ Yi : Lay, SIn w news₁ Yi (keysAt need i) (npAt need i) (succAt need i) .none 0 0 news ∧ Yi.S = x ∧ Has m₁ (Str.ofString "self") (.ref Yi.S) : Nat → FMap → Ledger → Prop) (fun _ _ _ => .rfl) fun J hJ hJi hJo => ?_
 refine ForAt_items (s := ⟨_, _, _, _, _⟩) (knd := intKind prg w) (kvs := (rng n).map fun k => (k, Value.ref (la k))) (ep := ep) (d := nd) (news := _) J (by rfl) rfl rfl rfl ⟨_, Heap.get?_push_size _ rfl, rfl, rfl⟩ ?_ (kF.push _) (fun p hp => ⟨Heap.get?_push_of_some _ (kN p hp).1, (kN p hp).2⟩) ?_ ?_ ?_ ?_
 ·exact (hat kN (.tail _ (.tail _ (.tail _ hno)))).at fun o e => Heap.get?_push_of_some _ e
 ·exact hJi _ _ _ _ (I0 _ _ _ _ _ _) (rfl) (⟨rfl⟩)
 ·intro i h m₁ news₁ F₁ N₁ hj
  rw [hJ] at hj
  refine oEA (hj) fun Yi Ii _ => ?_
  try clear hj
  exact hat N₁ (Ii.rst _ hno).1
 ·intro i k v key m₁ news₁ h₁ tk₁ I' it hkv hkey hj hne F₁ N₁
  dsimp only [envOf] at F₁ N₁
  refine hJo _ _ _ hj _ fun Yi Ii f1 m1 => ?_
  clear hj
  have hkk : (rng n)[i]? = some k ∧ v = .ref (la k) := by
   rw [List.getElem?_map] at hkv
   cases hq : (rng n)[i]? with
   | none => rw [hq] at hkv; cases hkv
   | some j => rw [hq] at hkv; cases hkv; exact ⟨rfl, rfl⟩
  refine an1 (hkk) fun hk1 er1 => ?_
  try clear hkk
  subst er1
  refine ex1 ((intKey hkey : ∃ t, key = .int k t)) fun tk' er2 => ?_
  subst er2
  have hik : k = (i : Int) := by
   have := hk1
   unfold rng at this
   rw [List.getElem?_map] at this
   cases hq : (List.range n)[i]? with
   | none => rw [hq] at this; cases this
   | some j =>
    rw [hq] at this
    have hj : j = i := by have := List.getElem?_eq_some_iff.mp hq; obtain ⟨_, e⟩ := this; simpa using e.symm
    cases this; rw [hj]
  have hkm : k ∈ rng n := List.mem_of_getElem? hk1
  refine oEEA (hN.lists k hkm) fun vs ev hvs hvI => ?_
  clear kF kN
  have I4 := Ii.cons (o := it) hne
  have hvm : (la k, listOf vs.toArray ev) ∈ (I', it) :: news₁ := .tail _ (Ii.rst _ hvs).1
  generalize (I', it) :: news₁ = news2 at N₁ I4 hvm
  have hS := I4.inst
  refine ex6 (I4.sd) fun t1 t2 t3 t4 tpo tfi hdS => ?_
  repeat' first | (k_unfold; (try dsimp only)) | ((fail_if_success (with_reducible first | refine WG ?_ | refine FG ?_)); first | ((with_reducible refine execs_cons_gen ?_); intro _; (try dsimp only)) | walk1 | (dsimp only; walk1))
  refine methodCall_star ?_
  repeat' first | (k_unfold; (try dsimp only)) | ((fail_if_success (with_reducible first | refine WG ?_ | refine FG ?_)); first | ((with_reducible show wpAny _ _ (eval (Expr.Name _ _) _) _ _ _); k_dflt refine' ld (by k_asm) (by first | exact Has.get (by with_reducible assumption) (by exact rfl) | exact rfl) ?_) | walk1 | (dsimp only; walk1))
  (with_reducible rename ∀ p ∈ news2, p.1 < _ => q9)
  refine callWith_MS (K := Mine.hd.heap_39 w.params) (f := 147) (self := .ref Yi.S) (by k_is) ?_
  repeat' first | (k_unfold; (try dsimp only)) | ((fail_if_success (with_reducible first | refine WG ?_ | refine FG ?_)); first | ((with_reducible show wpAny _ _ (eval (Expr.Name _ _) _) _ _ _); k_dflt refine' ld (by k_asm) (by first | exact Has.get (by with_reducible assumption) (by exact rfl) | exact rfl) ?_) | walk1 | (dsimp only; walk1))
  (with_reducible rename Fr _ _ _ _ => kF); (with_reducible rename News _ _ _ _ => kN)
  refine star_seq kF kN (.tail _ hvm) rfl rfl (.inl rfl) rfl (by rw [sizeLine_eq, List.size_toArray, hvI.length]; have := hN.small k hkm; omega) ?_
  intro h5 F5 N5
  clear kF kN
  dsimp only
  repeat' first | (k_unfold; (try dsimp only)) | ((fail_if_success (with_reducible first | refine WG ?_ | refine FG ?_)); first | walk1 | (dsimp only; walk1))
  rw [List.append_nil]
  have I5 := I4.cons (o := methodObj (.ref 147) (.ref Yi.S)) (fun p hp => Nat.ne_of_lt (q9 p hp))
  have hin : i < n := by have := (List.getElem?_eq_some_iff.mp hk1).1; simpa [rng] using this
  k_dflt (refine' add_code ?k1 ?k2 ?k3 ?k4 ?k5 ?kK ?kd ?ku ?kw ?ks ?kx ?ky ?kz ?_; (case k1 => k_asm); (case k2 => k_asm); (case k3 => k_asm); (case k4 => k_asm); (case k5 => k_asm); (case kK => first | exact rfl | assumption); (case kd => ktr_room); (case ku => ktr_units); (case kw => exact hvI); (case ks => exact hN.small k hkm); (case kx => exact I5); (case ky => have := keysAt_len need i (fun k hk => hN.small k (rng_mono (Nat.le_of_lt hin) hk)); omega); (case kz => intro j; have := succAt_len need i j (fun k hk => hN.small k (rng_mono (Nat.le_of_lt hin) hk)); omega))
  intro Y' news' h' tk6 e1 e2 e3 I6 F6 N6
  dsimp only
  repeat' first | (k_unfold; (try dsimp only)) | ((fail_if_success (with_reducible first | refine WG ?_ | refine FG ?_)); first | ((with_reducible refine execs_nil_gen ?_); intro _; (try dsimp only)) | walk1 | (dsimp only; walk1))
  have hst := stepAt need i
  rw [hik] at I6
  rw [← hst.1, ← hst.2.1, ← hst.2.2] at I6
  have I7 := I6.sub (rest' := (I', it) :: news) (fun p hp => .tail _ hp)
  refine FPost.next (by k_asm) (news_drop (by k_asm) (I7.rst _ (.head _)).1) dropA_ne ?_
  exact hJi _ _ _ (Y') (I7.drop (fun p hp => hne p (Ii.rst p hp).1)) (e1.trans f1) (⟨by rw [e1]; exact m1.out⟩)
 ·intro m₁ news₁ h₁ tk₁ hj F₁ N₁
  dsimp only [envOf] at F₁ N₁
  refine hJo _ _ _ hj _ fun Yi Ii f1 m1 => ?_
  clear hj
  clear kF kN
  dsimp only
  repeat' first | (k_unfold; (try dsimp only)) | ((fail_if_success (with_reducible first | refine WG ?_ | refine FG ?_)); first | ((with_reducible refine execs_nil_gen ?_); intro _; (try dsimp only)) | walk1 | (dsimp only; walk1))
  rw [List.length_map, show (rng n).length = n from by simp [rng]] at Ii
  rw [← f1]
  exact hret Yi _ _ _ Ii (by k_asm) (by k_asm)
end
section
open PySem PySem.W PyProof.Rows PySem.Calls
variable {w : World} {mean : ExcName → Option Value} {mg mb : Str → Option Value} {dp un : Nat} {gd : Option (List Code)} {cn : Str} {cs : Scope} {a : Addr} {ccd : Value} {cl : List (Str × Addr)} {outer : List Env} {A₀ : Around} {base h₀ : Heap} {L : Addr} {m : Str → Option Value} {news : List (Addr × Obj)} {s : Shared} {Q E : Value → Shared → Prop}
theorem active_spec {Y : Lay} {keys : List Int} {np : Int → Int} {succ : Int → List Int} {R : Addr} {po fi : Int} {rest : Ledger} {vs : List Value} {ep : Nat} (B : Below A₀ base outer h₀) (F : Fr h₀ L s.heap m) (X : (Mine.hd.heap_39 w.params).In h₀) (N : News h₀ L s.heap news) (T : Top vw loose0 mean mg mb h₀) (hk : cs.kind = .function)
  (hd : dp + 9 < recursionLimit) (hu : un + 72 < cLine) (I : SIn w news Y keys np succ (.ref R) po fi rest) (hR : (R, listOf vs.toArray ep) ∈ rest) (hv : vs.length ≤ 1000)
  (hret : ∀ h' tk', Fr h₀ L h' m → News h₀ L h' news → Q (.bool (decide (fi < po) || !vs.isEmpty)) { s with heap := h', toks := tk' }) :
  wpAny (model prg w) (ktrTop dp un gd cn cs L a ccd cl outer) (call (.ref 166) [.ref Y.S]) Q E s := by
 refine wpAny_call ?_
 k_dflt (refine' code_def ?k1u1 ?k2u1 ?k3u1 ?k4u1 ?k5u1 ?kAu1 ?kFu1 ?kKu1 ?k6u1 ?k7u1 ?k8u1 ?k9u1 ?kBu1 ?_ ?c2u1 ?c3u1 ?c4u1 ?c5u1; (case kAu1 => exact rfl); (case kFu1 => exact rfl); (case kKu1 => first | assumption | exact rfl); (case k1u1 => k_asm); (case k2u1 => k_asm); (case k3u1 => k_asm); (case k4u1 => k_asm); (case k5u1 => k_asm); (case k6u1 => k_is); (case k7u1 => k_is); (case k8u1 => ktr_room); (case k9u1 => first | exact BindsTo.of_eq rfl | exact binds_K (by k_in) rfl (by k_is) rfl rfl rfl | (refine' kp_binds ?kxu1 ?keu1; (case kxu1 => k_in); (case keu1 => exact fun _ => rfl))); (case c5u1 => decide); (case kBu1 => exact locs rfl); (case c2u1 => exact rfl); (case c3u1 => exact rfl); (case c4u1 => exact rfl); k_whole; intro _ _ _ _ _ _ zzB' _ _; (try dsimp only); (try k_lift zzB'); (try k_fold))
 refine wpAny_noRaise ?_
 clear F N
 have hS := I.inst
 refine ex6 (I.sd) fun t1 t2 t3 t4 tpo tfi hdS => ?_
 have hR1 := (I.rst _ hR).1
 repeat' first | (k_unfold; (try dsimp only)) | ((fail_if_success (with_reducible first | refine WG ?_ | refine FG ?_)); first | ((with_reducible show wpAny _ _ (call (Value.type "bool") _) _ _ _); (k_dflt (refine' call_bool_list (by exact News.isList (by k_asm) (by k_mem)) (by (simp only [List.size_toArray]; omega)) ?_))) | ((with_reducible show wpAny _ _ (eval (Expr.Name _ _) _) _ _ _); k_dflt refine' ld (by k_asm) (by first | exact Has.get (by with_reducible assumption) (by exact rfl) | exact rfl) ?_) | ((with_reducible refine execs_cons_gen ?_); intro _; (try dsimp only)) | ((with_reducible refine execs_nil_gen ?_); intro _; (try dsimp only)) | walk1 | (dsimp only; walk1))
 ·(with_reducible rename fi < po => q1)
  rw [decide_eq_true q1] at hret
  rw [decide_eq_true q1]
  exact hret _ _ (by k_asm) (by k_asm)
 ·(with_reducible rename ¬ (fi < po) => q1)
  have e : (decide (fi < po) || !vs.isEmpty) = !vs.toArray.isEmpty := by rw [decide_eq_false q1]; simp
  rw [e] at hret
  exact hret _ _ (by k_asm) (by k_asm)
theorem tl_vs (vs : List Value) : vs.toArray.toList = vs := rfl
theorem valueAt_key {Y : Lay} {keys : List Int} {k : Int} (h : k ∈ keys) : valueAt (pairsOfK Y keys) k = some (.ref (Y.ia k)) := by
 unfold pairsOfK
 rw [valueAt_map (f := fun k => Value.ref (Y.ia k)), if_pos h]
theorem mem_take_succ {ps : List Int} {i : Nat} {p : Int} (h : ps[i]? = some p) (j : Int) : j ∈ ps.take (i + 1) ↔ j ∈ ps.take i ∨ j = p := by
 rw [List.take_add_one, h]; simp
theorem ready_spec {Y : Lay} {keys : List Int} {np : Int → Int} {succ : Int → List Int} {R : Addr} {po fi : Int} {rest : Ledger} {vs : List Value} {ep : Nat} {rs : List Int} (B : Below A₀ base outer h₀) (F : Fr h₀ L s.heap m) (X : (Mine.hd.heap_39 w.params).In h₀) (N : News h₀ L s.heap news) (T : Top vw loose0 mean mg mb h₀) (hk : cs.kind = .function)
  (hd : dp + 19 < recursionLimit) (hu : un + 172 < cLine) (I : SIn w news Y keys np succ (.ref R) po fi rest) (hR : (R, listOf vs.toArray ep) ∈ rest) (hv : vs.length ≤ 1000) (h0 : vs ≠ []) (hvs : IntsAre vs rs) (hrs : ∀ k ∈ rs, k ∈ keys)
  (hret : ∀ D e' news' h' tk', (∀ p ∈ news, p.1 < D) → SIn w news' Y keys (fun j => if j ∈ rs then -1 else np j) succ (.ref R) (po + rs.length) fi ((D, tupOf vs) :: setL rest R (listOf #[] e')) → Fr h₀ L h' m → News h₀ L h' news' → Q (.ref D) { s with heap := h', toks := tk' }) :
  wpAny (model prg w) (ktrTop dp un gd cn cs L a ccd cl outer) (call (.ref 159) [.ref Y.S]) Q E s := by
 refine wpAny_call ?_
 k_dflt (refine' code_def ?k1u2 ?k2u2 ?k3u2 ?k4u2 ?k5u2 ?kAu2 ?kFu2 ?kKu2 ?k6u2 ?k7u2 ?k8u2 ?k9u2 ?kBu2 ?_ ?c2u2 ?c3u2 ?c4u2 ?c5u2; (case kAu2 => exact rfl); (case kFu2 => exact rfl); (case kKu2 => first | assumption | exact rfl); (case k1u2 => k_asm); (case k2u2 => k_asm); (case k3u2 => k_asm); (case k4u2 => k_asm); (case k5u2 => k_asm); (case k6u2 => k_is); (case k7u2 => k_is); (case k8u2 => ktr_room); (case k9u2 => first | exact BindsTo.of_eq rfl | exact binds_K (by k_in) rfl (by k_is) rfl rfl rfl | (refine' kp_binds ?kxu2 ?keu2; (case kxu2 => k_in); (case keu2 => exact fun _ => rfl))); (case c5u2 => decide); (case kBu2 => exact locs rfl); (case c2u2 => exact rfl); (case c3u2 => exact rfl); (case c4u2 => exact rfl); k_whole; intro _ _ _ _ _ _ zzB' _ _; (try dsimp only); (try k_lift zzB'); (try k_fold))
 refine wpAny_noRaise ?_
 clear F N
 have hS := I.inst
 refine ex6 (I.sd) fun t1 t2 t3 t4 tpo tfi hdS => ?_
 have hR1 := (I.rst _ hR).1
 repeat' first | (k_unfold; (try dsimp only)) | ((fail_if_success (with_reducible first | refine WG ?_ | refine FG ?_)); first | ((with_reducible show wpAny _ _ (call (Value.type "tuple") _) _ _ _); (k_dflt (refine' kde_tupleOf (by k_asm) (by k_asm) (by exact News.isList (by k_asm) (by k_mem)) (by (simp only [List.size_toArray]; omega)) (by exact tl_vs _) ?_); intro _ _ _ _ _; (try dsimp only))) | ((with_reducible show wpAny _ _ (eval (Expr.Name _ _) _) _ _ _); k_dflt refine' ld (by k_asm) (by first | exact Has.get (by with_reducible assumption) (by exact rfl) | exact rfl) ?_) | ((with_reducible refine execs_cons_gen ?_); intro _; (try dsimp only)) | ((with_reducible refine execs_nil_gen ?_); intro _; (try dsimp only)) | walk1 | (dsimp only; walk1))
 (with_reducible rename ∀ p ∈ news, p.1 < _ => l1)
 (with_reducible rename Fr _ _ _ _ => kF); (with_reducible rename News _ _ _ _ => kN)
 rename_i D _ _ _ _ _
 have I1 := I.cons (o := tupOf vs) (fun p hp => Nat.ne_of_lt (l1 p hp))
 have hD : (D, tupOf vs) ∈ (D, tupOf vs) :: rest := .head _
 have hR2 : (R, listOf vs.toArray ep) ∈ (D, tupOf vs) :: rest := .tail _ hR
 have hDR : D ≠ R := fun e => Nat.lt_irrefl D (by have := l1 _ hR1; rw [e] at this ⊢; exact this)
 refine For_enter ?_
 repeat' first | (k_unfold; (try dsimp only)) | ((fail_if_success (with_reducible first | refine WG ?_ | refine FG ?_)); first | ((with_reducible show wpAny _ _ (eval (Expr.Name _ _) _) _ _ _); k_dflt refine' ld (by k_asm) (by first | exact Has.get (by with_reducible assumption) (by exact rfl) | exact rfl) ?_) | walk1 | (dsimp only; walk1))
 (with_reducible rename Fr _ _ _ _ => kF); (with_reducible rename News _ _ _ _ => kN)
 generalize (D, tupOf vs) :: news = news1 at kN I1
 generalize hr1 : (D, tupOf vs) :: rest = rest1 at hD hR2 I1
 refine letX3_0_4eio (fun i m₁ news₁ => SIn w news₁ Y keys (fun j => if j ∈ rs.take i then -1 else np j) succ (.ref R) po fi rest1 ∧ Has m₁ (Str.ofString "self") (.ref Y.S) ∧ Has m₁ (Str.ofString "result") (.ref D) ∧ Has m₁ (Str.ofString "n2i") (.ref Y.N2) : Nat → FMap → Ledger → Prop) (fun _ _ _ => .rfl) fun J hJ hJi hJo => ?_
 refine ForAt_tuple (items := vs) J (by rfl) ⟨_, kN.get (I1.rst _ hD).1, rfl, _, rfl⟩ kF kN ?_ ?_ ?_ ?_
 ·exact hJi _ _ _ (by simpa using I1) (⟨rfl⟩) (⟨rfl⟩) (⟨rfl⟩)
 ·intro i h m₁ news₁ F₁ N₁ hj
  rw [hJ] at hj
  refine an1 (hj) fun Ii _ => ?_
  try clear hj
  exact ⟨_, N₁.get (Ii.rst _ hD).1, rfl, _, rfl⟩
 ·intro i v m₁ news₁ h₁ tk₁ I' it hv hj hne F₁ N₁
  dsimp only [envOf] at F₁ N₁
  refine hJo _ _ _ hj _ fun Ii m1 m2 m3 => ?_
  clear hj
  refine oEEA (hvs.at i v hv) fun p tp er1 hp => ?_
  subst er1
  clear kF kN hS hdS hR1 I1
  have I4 := Ii.cons (o := it) hne
  have hrI : ∀ q ∈ rest1, q.1 ≠ I' := fun q hq => hne q (Ii.rst q hq).1
  generalize (I', it) :: news₁ = news2 at N₁ I4
  have hpk := hrs p (List.mem_of_getElem? hp)
  have hva := valueAt_key (Y := Y) hpk
  refine ex2 (I4.info p hpk) fun ti tn hi => ?_
  have hdi := (I4.dinf p hpk).1
  have U4 := I4.uniq
  refine oEA (I4.n2) fun oN hoN hdN => ?_
  have hnm := I4.nm
  repeat' first | (k_unfold; (try dsimp only)) | ((fail_if_success (with_reducible first | refine WG ?_ | refine FG ?_)); first | ((with_reducible show wpAny _ _ (subscriptTail _ _ (Value.ref _) (Value.int _ _)) _ _ _); k_dflt (refine' kda_item (knd := intKind _ _) (by k_asm) (by k_mem) (by with_reducible assumption) (intKind_is _ _ _ _) (by with_reducible assumption) ?_)) | ((with_reducible show wpAny _ _ (eval (Expr.Name _ _) _) _ _ _); k_dflt refine' ld (by k_asm) (by first | exact Has.get (by with_reducible assumption) (by exact rfl) | exact rfl) ?_) | ((with_reducible refine execs_cons_gen ?_); intro _; (try dsimp only)) | ((with_reducible refine execs_nil_gen ?_); intro _; (try dsimp only)) | walk1 | (dsimp only; walk1))
  (with_reducible rename Fr _ _ _ _ => kF); (with_reducible rename News _ _ _ _ => kN)
  have I5 := fun t' => I4.setNp (t := ti) (t' := t') (v := -1) hpk
  have e : (fun j => if j = p then -1 else if j ∈ rs.take i then -1 else np j) = fun j => if j ∈ rs.take (i + 1) then -1 else np j := by
   funext j
   have hm := mem_take_succ hp j
   by_cases h1 : j = p
   ·rw [if_pos h1, if_pos (hm.mpr (.inr h1))]
   ·rw [if_neg h1]
    by_cases h2 : j ∈ rs.take i
    ·rw [if_pos h2, if_pos (hm.mpr (.inl h2))]
    ·rw [if_neg h2, if_neg (fun h => (hm.mp h).elim h2 h1)]
  rw [e] at I5
  refine FPost.next kF (news_drop kN ((I5 _).rst _ (.head _)).1) dropA_ne ?_
  exact hJi _ _ _ ((I5 _).drop hrI) (⟨m1.out⟩) (⟨m2.out⟩) (⟨m3.out⟩)
 ·intro m₁ news₁ h₁ tk₁ hj F₁ N₁
  dsimp only [envOf] at F₁ N₁
  refine hJo _ _ _ hj _ fun Ii m1 m2 m3 => ?_
  clear hj
  clear kF kN hS hdS hR1 I1
  rw [hvs.length, List.take_length] at Ii
  have hS := Ii.inst
  have hRn := (Ii.rst _ hR2).1
  have hDn := (Ii.rst _ hD).1
  refine ex6 (Ii.sd) fun t1 t2 t3 t4 tpo tfi hdS => ?_
  have U4 := Ii.uniq
  have z1 : vs.toArray.toList.length ≠ 0 := fun e => h0 (List.length_eq_zero_iff.mp e)
  have z2 : vs.toArray.toList.length ≤ sizeLine := by rw [sizeLine_eq]; show vs.length ≤ _; omega
  repeat' first | (k_unfold; (try dsimp only)) | ((fail_if_success (with_reducible first | refine WG ?_ | refine FG ?_)); first | ((with_reducible show wpAny _ _ (call (Value.builtin "list.clear") _) _ _ _); (k_dflt (refine' kl_clear (by k_asm) (by k_asm) (by k_upd) (by with_reducible assumption) (by with_reducible assumption) ?_); k_whole; intro _ _ _; (try dsimp only))) | ((with_reducible show wpAny _ _ (eval (Expr.Name _ _) _) _ _ _); k_dflt refine' ld (by k_asm) (by first | exact Has.get (by with_reducible assumption) (by exact rfl) | exact rfl) ?_) | ((with_reducible refine execs_cons_gen ?_); intro _; (try dsimp only)) | ((with_reducible refine execs_nil_gen ?_); intro _; (try dsimp only)) | walk1 | (dsimp only; walk1))
  have I8 := Ii.setRest (o' := listOf #[] (ep + 1)) hR2
  have hD3 : (D, tupOf vs) ∈ setL rest1 R (listOf #[] (ep + 1)) := mem_set_ne hD hDR
  clear hS hRn hDn hdS U4 Ii
  generalize setL news₁ R (listOf #[] (ep + 1)) = news3 at *
  have hS := I8.inst
  have hDn := (I8.rst _ hD3).1
  refine ex6 (I8.sd) fun t1 t2 t3 t4 tpo tfi hdS => ?_
  have U4 := I8.uniq
  have z3 := hvs.length
  repeat' first | (k_unfold; (try dsimp only)) | ((fail_if_success (with_reducible first | refine WG ?_ | refine FG ?_)); first | ((with_reducible show wpAny _ _ (call (Value.builtin "len") [Value.ref _]) _ _ _); k_dflt refine' len_tupK (by k_asm) (by k_mem) (by with_reducible assumption) (by omega) ?_) | ((with_reducible show wpAny _ _ (eval (Expr.Name _ _) _) _ _ _); k_dflt refine' ld (by k_asm) (by first | exact Has.get (by with_reducible assumption) (by exact rfl) | exact rfl) ?_) | ((with_reducible refine execs_cons_gen ?_); intro _; (try dsimp only)) | walk1 | (dsimp only; walk1))
  refine hret D (ep + 1) _ _ _ l1 ?_ (by k_asm) (by k_asm)
  refine SIn.sub I8.setD fun p hp => ?_
  rw [← hr1, setL_cons, if_neg hDR]
  exact hp
end
section
open PySem PySem.W PyProof.Rows PySem.Calls
variable {w : World} {mean : ExcName → Option Value} {mg mb : Str → Option Value} {dp un : Nat} {gd : Option (List Code)} {cn : Str} {cs : Scope} {a : Addr} {ccd : Value} {cl : List (Str × Addr)} {outer : List Env} {A₀ : Around} {base h₀ : Heap} {L : Addr} {m : Str → Option Value} {news : List (Addr × Obj)} {s : Shared} {Q E : Value → Shared → Prop}
noncomputable def stepD (st : (Int → Int) × List Int) (j : Int) : (Int → Int) × List Int := ((fun i => if i = j then st.1 j - 1 else st.1 i), if st.1 j - 1 = 0 then st.2 ++ [j] else st.2)
noncomputable def doneD (np : Int → Int) (rs ss : List Int) : (Int → Int) × List Int := ss.foldl stepD (np, rs)
theorem doneD_len (ss : List Int) : ∀ (np : Int → Int) (rs : List Int), (doneD np rs ss).2.length ≤ rs.length + ss.length := by
 induction ss with
 | nil => intro np rs; exact Nat.le_refl _
 | cons j ss ih =>
  intro np rs
  have h := ih (stepD (np, rs) j).1 (stepD (np, rs) j).2
  have h2 : (stepD (np, rs) j).2.length ≤ rs.length + 1 := by unfold stepD; dsimp only; split <;> simp
  show (doneD (stepD (np, rs) j).1 (stepD (np, rs) j).2 ss).2.length ≤ _
  rw [List.length_cons]; omega
theorem doneD_succ {np : Int → Int} {rs ss : List Int} {i : Nat} {j : Int} (h : ss[i]? = some j) : doneD np rs (ss.take (i + 1)) = stepD (doneD np rs (ss.take i)) j := by
 unfold doneD
 rw [List.take_add_one, h, List.foldl_append]; rfl
theorem setL_setL {l : Ledger} {R : Addr} {o o' : Obj} : setL (setL l R o) R o' = setL l R o' := by
 unfold setL
 rw [List.map_map]
 refine List.map_congr_left fun p _ => ?_
 by_cases e : p.1 = R <;> simp [e]
theorem mem_setL_same {l : Ledger} {R : Addr} {o : Obj} (h : (R, o) ∈ l) : ∀ p ∈ setL l R o, p ∈ l := fun p hp => by
 refine oEA (List.mem_map.mp hp) fun q hq er1 => ?_
 subst er1
 by_cases e : q.1 = R
 ·rw [if_pos e]; exact h
 ·rw [if_neg e]; exact hq
theorem mem_drop {a b : Addr} {o : Obj} {l : Ledger} (h : (b, o) ∈ l) (hne : b ≠ a) : (b, o) ∈ dropA l a := List.mem_filter.mpr ⟨h, by simpa using hne⟩
theorem done_spec {Y : Lay} {keys : List Int} {np : Int → Int} {succ : Int → List Int} {R : Addr} {po fi : Int} {rest : Ledger} {vs : List Value} {ep : Nat} {rs : List Int} {k : Int} {tk : Tok} (B : Below A₀ base outer h₀) (F : Fr h₀ L s.heap m) (X : (Mine.hd.heap_39 w.params).In h₀) (N : News h₀ L s.heap news) (T : Top vw loose0 mean mg mb h₀) (hk : cs.kind = .function)
  (hd : dp + 19 < recursionLimit) (hu : un + 172 < cLine) (I : SIn w news Y keys np succ (.ref R) po fi rest) (hR : (R, listOf vs.toArray ep) ∈ rest) (hv : vs.length + (succ k).length ≤ 1000) (hvs : IntsAre vs rs) (hkk : k ∈ keys) (hnp : np k = -1) (hss : ∀ j ∈ succ k, j ∈ keys)
  (hret : ∀ vs' e' news' h' tk', IntsAre vs' (doneD (fun j => if j = k then -2 else np j) rs (succ k)).2 → SIn w news' Y keys (doneD (fun j => if j = k then -2 else np j) rs (succ k)).1 succ (.ref R) po (fi + 1) (setL rest R (listOf vs'.toArray e')) → Fr h₀ L h' m → News h₀ L h' news' → Q .none { s with heap := h', toks := tk' }) :
  wpAny (model prg w) (ktrTop dp un gd cn cs L a ccd cl outer) (call (.ref 180) [.ref Y.S, .int k tk]) Q E s := by
 refine wpAny_call ?_
 k_dflt (refine' kp_rest ?k1u1 ?k2u1 ?k3u1 ?k4u1 ?k5u1 ?kAu1 ?kFu1 ?kKu1 ?k6u1 ?k7u1 ?k8u1 ?kVu1 ?kPu1 ?kGu1 ?kBu1 ?_ ?c2u1 ?c3u1 ?c4u1 ?c5u1; (case kAu1 => exact rfl); (case kFu1 => exact rfl); (case kKu1 => first | assumption | exact rfl); (case k1u1 => k_asm); (case k2u1 => k_asm); (case k3u1 => k_asm); (case k4u1 => k_asm); (case k5u1 => k_asm); (case k6u1 => k_is); (case k7u1 => k_is); (case k8u1 => ktr_room); (case kVu1 => exact rfl); (case kPu1 => exact rfl); (case kGu1 => exact fun _ => rfl); (case kBu1 => exact fun _ => locs rfl); (case c5u1 => decide); (case c2u1 => exact rfl); (case c3u1 => exact rfl); (case c4u1 => exact rfl); k_whole; intro _ _ _ _ _ _ _ _ _ _ _; (try dsimp only); (try k_fold))
 refine wpAny_noRaise ?_
 clear F N
 (with_reducible rename ∀ p ∈ news, p.1 < _ => l1)
 (with_reducible rename Fr _ _ _ _ => kF); (with_reducible rename News _ _ _ _ => kN)
 rename_i D' g' L' h' _ _ _ _
 replace kF : Fr g' L' h' (fun z => List.lookup z [(Str.ofString "nodes", Value.ref D'), (Str.ofString "self", Value.ref Y.S)]) := kF
 replace kN : News g' L' h' ((D', tupOf [.int k tk]) :: news) := kN
 have hR1 := (I.rst _ hR).1
 have hDR : D' ≠ R := fun e => Nat.lt_irrefl D' (by have := l1 _ hR1; rw [e] at this ⊢; exact this)
 have I1 := I.cons (o := tupOf [.int k tk]) (fun p hp => Nat.ne_of_lt (l1 p hp))
 have hD : (D', tupOf [.int k tk]) ∈ (D', tupOf [.int k tk]) :: rest := .head _
 have hR2 : (R, listOf vs.toArray ep) ∈ (D', tupOf [.int k tk]) :: rest := .tail _ hR
 generalize (D', tupOf [.int k tk]) :: news = news1 at kN I1
 generalize hr1 : (D', tupOf [.int k tk]) :: rest = rest1 at hD hR2 I1
 clear I hR1 l1
 have hS := I1.inst
 refine ex6 (I1.sd) fun t1 t2 t3 t4 tpo tfi hdS => ?_
 have hD1 := (I1.rst _ hD).1
 have hR1 := (I1.rst _ hR2).1
 repeat' first | (k_unfold; (try dsimp only)) | ((fail_if_success (with_reducible first | refine WG ?_ | refine FG ?_)); first | ((with_reducible show wpAny _ _ (eval (Expr.Name _ _) _) _ _ _); k_dflt refine' ld (by k_asm) (by first | exact Has.get (by with_reducible assumption) (by exact rfl) | exact rfl) ?_) | ((with_reducible refine execs_cons_gen ?_); intro _; (try dsimp only)) | ((with_reducible refine execs_nil_gen ?_); intro _; (try dsimp only)) | walk1 | (dsimp only; walk1))
 refine For_enter ?_
 repeat' first | (k_unfold; (try dsimp only)) | ((fail_if_success (with_reducible first | refine WG ?_ | refine FG ?_)); first | ((with_reducible show wpAny _ _ (eval (Expr.Name _ _) _) _ _ _); k_dflt refine' ld (by k_asm) (by first | exact Has.get (by with_reducible assumption) (by exact rfl) | exact rfl) ?_) | walk1 | (dsimp only; walk1))
 (with_reducible rename Fr _ _ _ _ => kF); (with_reducible rename News _ _ _ _ => kN)
 have hvl := hvs.length
 refine letX3_0_2eio (fun i m₁ news₁ => (i = 0 → m₁ (Str.ofString "self") = some (.ref Y.S) ∧ m₁ (Str.ofString "n2i") = some (.ref Y.N2) ∧ SIn w news₁ Y keys np succ (.ref R) po fi rest1) ∧ (∃ np' fi' vs' e', SIn w news₁ Y keys np' succ (.ref R) po fi' (setL rest1 R (listOf vs'.toArray e')) ∧ (i = 1 → np' = (doneD (fun j => if j = k then -2 else np j) rs (succ k)).1 ∧ fi' = fi + 1 ∧ IntsAre vs' (doneD (fun j => if j = k then -2 else np j) rs (succ k)).2)) : Nat → FMap → Ledger → Prop) (fun _ _ _ => .rfl) fun J hJ hJi hJo => ?_
 refine ForAt_tuple (items := [.int k tk]) J (by rfl) ⟨_, kN.get (I1.rst _ hD).1, rfl, _, rfl⟩ kF kN ?_ ?_ ?_ ?_
 ·exact hJi _ _ _ (fun _ => ⟨rfl, rfl, I1⟩) (⟨_, _, vs, ep, I1.sub (mem_setL_same hR2), fun h => absurd h (by decide)⟩)
 ·intro i h m₁ news₁ F₁ N₁ hj
  refine hJo _ _ _ hj _ fun _ oj1 => ?_
  clear hj
  obtain ⟨np', fi', vs', e', Ii, _⟩ := oj1
  exact ⟨_, N₁.get (Ii.rst _ (mem_set_ne hD hDR)).1, rfl, _, rfl⟩
 ·intro i v m₁ news₁ h₁ tk₁ I' it hv1 hj hne F₁ N₁
  dsimp only [envOf] at F₁ N₁
  rw [hJ] at hj
  obtain rfl : i = 0 := by
   have := (List.getElem?_eq_some_iff.mp hv1).1
   simp at this; omega
  obtain rfl : Value.int k tk = v := by simpa using hv1
  refine an2 (hj.1 rfl) fun m1 m2 Ii => ?_
  replace m1 : Has m₁ (Str.ofString "self") (.ref Y.S) := ⟨m1⟩
  replace m2 : Has m₁ (Str.ofString "n2i") (.ref Y.N2) := ⟨m2⟩
  clear kF kN hS hdS hR1 I1 hD1 hj
  have I4 := Ii.cons (o := it) hne
  have hrI : ∀ q ∈ rest1, q.1 ≠ I' := fun q hq => hne q (Ii.rst q hq).1
  have hIR : (R, listOf vs.toArray ep) ∈ (I', it) :: rest1 := .tail _ hR2
  have hIR' : I' ≠ R := fun e => hrI _ hR2 e.symm
  generalize (I', it) :: news₁ = news2 at N₁ I4
  generalize hr2 : (I', it) :: rest1 = rest2 at hIR I4
  clear Ii
  have hva := valueAt_key (Y := Y) hkk
  refine ex2 (I4.info k hkk) fun ti tn hi => ?_
  rw [hnp] at hi
  have hdi := (I4.dinf k hkk).1
  have U4 := I4.uniq
  refine oEA (I4.n2) fun oN hoN hdN => ?_
  have hnm := I4.nm
  repeat' first | (k_unfold; (try dsimp only)) | ((fail_if_success (with_reducible first | refine WG ?_ | refine FG ?_)); first | ((with_reducible show wpAny _ _ (call (Value.builtin "dict.get") _) _ _ _); k_dflt (refine' kdg_get1 (knd := intKind _ _) (by k_asm) (by k_mem) (by with_reducible assumption) (by with_reducible assumption) (intKind_is _ _ _ _) _ (by with_reducible assumption) ?_; (try dsimp only [Option.getD]))) | ((with_reducible show wpAny _ _ (getMethod (Value.ref _) (Str.ofString "get") _) _ _ _); k_dflt refine' kdg_method (knd := intKind _ _) (by k_asm) (by k_mem) (by with_reducible assumption) ?_) | ((with_reducible show wpAny _ _ (eval (Expr.Name _ _) _) _ _ _); k_dflt refine' ld (by k_asm) (by first | exact Has.get (by with_reducible assumption) (by exact rfl) | exact rfl) ?_) | ((with_reducible refine execs_cons_gen ?_); intro _; (try dsimp only)) | ((with_reducible refine execs_nil_gen ?_); intro _; (try dsimp only)) | walk1 | (dsimp only; walk1))
  (with_reducible rename Fr _ _ _ _ => kF); (with_reducible rename News _ _ _ _ => kN)
  refine oEA ((⟨_, kN, I4.setNp hkk⟩ : ∃ news3, News g' L' _ news3 ∧ SIn w news3 Y keys (fun j => if j = k then -2 else np j) succ (.ref R) po fi rest2)) fun news3 kN3 I5 => ?_
  clear kN I4 hi hdi U4 hoN hdN oN
  generalize (fun j => if j = k then -2 else np j) = np2 at I5 hJ hJi hJo hret
  refine ex2 (I5.info k hkk) fun ti tn hi => ?_
  have hdi := (I5.dinf k hkk).1
  refine oEEA (I5.suc k hkk) fun us eu hus husI => ?_
  refine For_enter ?_
  repeat' first | (k_unfold; (try dsimp only)) | ((fail_if_success (with_reducible first | refine WG ?_ | refine FG ?_)); first | ((with_reducible show wpAny _ _ (eval (Expr.Name _ _) _) _ _ _); k_dflt refine' ld (by k_asm) (by first | exact Has.get (by with_reducible assumption) (by exact rfl) | exact rfl) ?_) | walk1 | (dsimp only; walk1))
  (with_reducible rename Fr _ _ _ _ => kF); (with_reducible rename News _ _ _ _ => kN)
  refine letX3_2_5eio (fun i m₁ news₁ => ∃ vs' e', SIn w news₁ Y keys (doneD np2 rs ((succ k).take i)).1 succ (.ref R) po fi (setL rest2 R (listOf vs'.toArray e')) ∧ IntsAre vs' (doneD np2 rs ((succ k).take i)).2 ∧ (Y.sa k, listOf us.toArray eu) ∈ news₁ ∧ Has m₁ (Str.ofString "self") (.ref Y.S) ∧ Has m₁ (Str.ofString "n2i") (.ref Y.N2) : Nat → FMap → Ledger → Prop) (fun _ _ _ => .rfl) fun J2 hJ2 hJ2i hJ2o => ?_
  refine ForAt_list (items := us) J2 (by rfl) (News.isList kN hus) kF kN ?_ ?_ ?_ ?_
  ·exact hJ2i _ _ _ (vs) (ep) (I5.sub (mem_setL_same hIR)) (hvs) (hus) (⟨m1.out⟩) (⟨m2.out⟩)
  ·intro i h m₂ news₂ F₂ N₂ hj
   rw [hJ2] at hj
   refine oEEAAA (hj) fun vs' e' Ii _ hus' _ => ?_
   try clear hj
   exact News.isList N₂ hus'
  ·intro i v m₂ news₂ h₂ tk₂ I2' it2 hv2 hj hne2 F₂ N₂
   dsimp only [envOf] at F₂ N₂
   refine hJ2o _ _ _ hj _ fun vs' e' Ii hvs' hus' m3 m4 => ?_
   clear hj
   refine oEEA (husI.at i v hv2) fun p tp er2 hp => ?_
   subst er2
   clear kF kN hus hi hdi I5
   have hps := List.mem_of_getElem? hp
   have hpk := hss p hps
   have hR3 : (R, listOf vs'.toArray e') ∈ setL rest2 R (listOf vs'.toArray e') := mem_set_self hIR
   have I6 := Ii.cons (o := it2) hne2
   have hrI2 : ∀ q ∈ setL rest2 R (listOf vs'.toArray e'), q.1 ≠ I2' := fun q hq => hne2 q (Ii.rst q hq).1
   have hIR2 : I2' ≠ R := fun e => hrI2 _ hR3 e.symm
   have hsI : Y.sa k ≠ I2' := hne2 _ hus'
   replace hus' : (Y.sa k, listOf us.toArray eu) ∈ (I2', it2) :: news₂ := .tail _ hus'
   have hR4 : (R, listOf vs'.toArray e') ∈ (I2', it2) :: setL rest2 R (listOf vs'.toArray e') := .tail _ hR3
   generalize (I2', it2) :: news₂ = news4 at N₂ I6 hus'
   clear Ii
   have hstep := doneD_succ (np := np2) (rs := rs) hp
   have hlen : vs'.length ≤ 999 := by
    have h1 := doneD_len ((succ k).take i) np2 rs
    have h2 := hvs'.length
    have h3 := (List.getElem?_eq_some_iff.mp hp).1
    have h4 : ((succ k).take i).length ≤ i := List.length_take_le ..
    omega
   generalize doneD np2 rs ((succ k).take i) = st at I6 hvs' hstep
   have hva2 := valueAt_key (Y := Y) hpk
   refine ex2 (I6.info p hpk) fun ti tn hi => ?_
   have hdi := (I6.dinf p hpk).1
   have U6 := I6.uniq
   refine oEA (I6.n2) fun oN hoN hdN => ?_
   repeat' first | (k_unfold; (try dsimp only)) | ((fail_if_success (with_reducible first | refine WG ?_ | refine FG ?_)); first | ((with_reducible show wpAny _ _ (subscriptTail _ _ (Value.ref _) (Value.int _ _)) _ _ _); k_dflt (refine' kda_item (knd := intKind _ _) (by k_asm) (by k_mem) (by with_reducible assumption) (intKind_is _ _ _ _) (by with_reducible assumption) ?_)) | ((with_reducible show wpAny _ _ (eval (Expr.Name _ _) _) _ _ _); k_dflt refine' ld (by k_asm) (by first | exact Has.get (by with_reducible assumption) (by exact rfl) | exact rfl) ?_) | ((with_reducible refine execs_cons_gen ?_); intro _; (try dsimp only)) | walk1 | (dsimp only; walk1))
   (with_reducible rename Fr _ _ _ _ => kF); (with_reducible rename News _ _ _ _ => kN)
   refine oEAA ((⟨_, kN, I6.setNp hpk, mem_set_ne hus' (Ne.symm (I6.is hpk hkk))⟩ : ∃ news5, News g' L' _ news5 ∧ SIn w news5 Y keys (fun j => if j = p then st.1 p - 1 else st.1 j) succ (.ref R) po fi ((I2', it2) :: setL rest2 R (listOf vs'.toArray e')) ∧ (Y.sa k, listOf us.toArray eu) ∈ news5)) fun news5 kN5 I7 hus5 => ?_
   clear kN I6 hi hdi U6 hoN hdN oN hus'
   refine ex2 (I7.info p hpk) fun ti tn hi => ?_
   rw [if_pos rfl] at hi
   have hdi := (I7.dinf p hpk).1
   have U7 := I7.uniq
   have hS := I7.inst
   refine ex6 (I7.sd) fun t1 t2 t3 t4 tpo tfi hdS => ?_
   have hR5 := (I7.rst _ hR4).1
   have hul : vs'.toArray.size ≤ sizeLine := by rw [sizeLine_eq, List.size_toArray]; omega
   repeat' first | (k_unfold; (try dsimp only)) | ((fail_if_success (with_reducible first | refine WG ?_ | refine FG ?_)); first | ((with_reducible show wpAny _ _ (eval (Expr.Name _ _) _) _ _ _); k_dflt refine' ld (by k_asm) (by first | exact Has.get (by with_reducible assumption) (by exact rfl) | exact rfl) ?_) | ((with_reducible refine execs_cons_gen ?_); intro _; (try dsimp only)) | ((with_reducible refine execs_nil_gen ?_); intro _; (try dsimp only)) | walk1 | (dsimp only; walk1))
   all_goals (with_reducible rename Fr _ _ _ _ => kF)
   all_goals (with_reducible rename News _ _ _ _ => kN)
   ·(with_reducible rename _ = 0 => q1)
    have I8 := I7.setRest (o' := listOf (vs' ++ [Value.int p tp]).toArray (e' + 1)) hR4
    rw [setL_cons, if_neg hIR2, setL_setL] at I8
    rw [List.push_toArray] at kN
    refine FPost.next kF (news_drop kN (I8.rst _ (.head _)).1) dropA_ne ?_
    refine hJ2i _ _ _ (vs' ++ [.int p tp]) (e' + 1) ?_ ?_ ?_ (⟨m3.out⟩) (⟨m4.out⟩)
    ·rw [hstep]
     refine I8.drop fun q hq => ?_
     refine oEA (List.mem_map.mp hq) fun q' hq' er3 => ?_
     subst er3
     by_cases e : q'.1 = R
     ·rw [if_pos e]; exact Ne.symm hIR2
     ·rw [if_neg e]; have := hrI2 q' (mem_set_ne hq' e); exact this
    ·rw [hstep]
     show IntsAre _ (if st.1 p - 1 = 0 then st.2 ++ [p] else st.2)
     rw [if_pos q1]
     exact intsAre_push hvs'
    ·exact mem_drop (mem_set_ne hus5 (fun e => (I7.rst _ hR4).2 (e ▸ .inr (.inr (.inr ⟨k, hkk, .inr (.inr rfl)⟩))))) hsI
   ·(with_reducible rename _ ≠ 0 => q1)
    refine FPost.next kF (news_drop kN (I7.rst _ (.head _)).1) dropA_ne ?_
    refine hJ2i _ _ _ (vs') (e') ?_ ?_ ?_ (⟨m3.out⟩) (⟨m4.out⟩)
    ·rw [hstep]
     exact I7.drop hrI2
    ·rw [hstep]
     show IntsAre _ (if st.1 p - 1 = 0 then st.2 ++ [p] else st.2)
     rw [if_neg q1]
     exact hvs'
    ·exact mem_drop hus5 hsI
  ·intro m₂ news₂ h₂ tk₂ hj F₂ N₂
   dsimp only [envOf] at F₂ N₂
   refine hJ2o _ _ _ hj _ fun vs' e' Ii hvs' hus' m3 m4 => ?_
   clear hj
   rw [husI.length, List.take_length] at Ii hvs'
   clear kF kN hus hi hdi I5
   have U6 := Ii.uniq
   have hS := Ii.inst
   refine ex6 (Ii.sd) fun t1 t2 t3 t4 tpo tfi hdS => ?_
   repeat' first | (k_unfold; (try dsimp only)) | ((fail_if_success (with_reducible first | refine WG ?_ | refine FG ?_)); first | ((with_reducible show wpAny _ _ (eval (Expr.Name _ _) _) _ _ _); k_dflt refine' ld (by k_asm) (by first | exact Has.get (by with_reducible assumption) (by exact rfl) | exact rfl) ?_) | ((with_reducible refine execs_cons_gen ?_); intro _; (try dsimp only)) | ((with_reducible refine execs_nil_gen ?_); intro _; (try dsimp only)) | walk1 | (dsimp only; walk1))
   (with_reducible rename Fr _ _ _ _ => kF); (with_reducible rename News _ _ _ _ => kN)
   refine oEA ((⟨_, kN, Ii.setD⟩ : ∃ news6, News g' L' _ news6 ∧ SIn w news6 Y keys (doneD np2 rs (succ k)).1 succ (.ref R) po (fi + 1) (setL rest2 R (listOf vs'.toArray e')))) fun news6 kN6 I9 => ?_
   rw [← hr2, setL_cons, if_neg hIR'] at I9
   refine FPost.next kF (news_drop kN6 (I9.rst _ (.head _)).1) dropA_ne ?_
   refine hJi _ _ _ (fun h => absurd h (by decide)) (⟨_, _, vs', e', I9.drop ?_, fun _ => ⟨rfl, rfl, hvs'⟩⟩)
   intro q hq
   refine oEA (List.mem_map.mp hq) fun q' hq' er4 => ?_
   subst er4
   by_cases e : q'.1 = R
   ·rw [if_pos e]; exact Ne.symm hIR'
   ·rw [if_neg e]; exact hrI q' hq'
 ·intro m₁ news₁ h₁ tk₁ hj F₁ N₁
  dsimp only [envOf] at F₁ N₁
  refine hJo _ _ _ hj _ fun _ oj2 => ?_
  clear hj
  obtain ⟨np', fi', vs', e', Ii, hf⟩ := oj2
  refine an2 (hf rfl) fun er5 er6 hvs' => ?_
  subst er5
  subst er6
  clear kF kN
  repeat' first | (k_unfold; (try dsimp only)) | ((fail_if_success (with_reducible first | refine WG ?_ | refine FG ?_)); first | ((with_reducible refine execs_nil_gen ?_); intro _; (try dsimp only)) | walk1 | (dsimp only; walk1))
  refine hret vs' e' _ _ _ hvs' (Ii.sub ?_) (by k_asm) (by k_asm)
  intro p hp
  rw [← hr1, setL_cons, if_neg hDR]
  exact .tail _ hp
end
section
open PySem PySem.W PyProof.Rows PySem.Calls
theorem slot_li_ga : Slot "list_iterator" "__getattribute__" "object.__getattribute__" :=
 .of (owner := "object") (n := "__getattribute__") (by rw [typeLookup_type, builtinLookup_eq_fast]; kernel_rfl) (by decide +kernel) (by decide +kernel) (by decide +kernel)
  (by first | exact .inl (by decide +kernel) | exact .inr (by decide +kernel)) (by rw [isSubtype_type]; kernel_rfl)
theorem entry_li_ga : entryFor table "object.__getattribute__" = some Builtin.«object.__getattribute__» := entryFor_of_tree (by kernel_rfl)
theorem args_li_ga (a b : Value) : argsOk "object.__getattribute__" ⟨[a, b], []⟩ := by unfold argsOk; kernel_rfl
theorem lk_li_next : typeLookup (.type "list_iterator") "__next__" = pure (some (.builtin "list_iterator.__next__")) := by rw [typeLookup_type, builtinLookup_eq_fast]; kernel_rfl
theorem typeOf_li_next : typeOf (.builtin "list_iterator.__next__") = pure (.type "wrapper_descriptor") := by show builtinType _ = _; rw [builtinType_eq_fast]; kernel_rfl
theorem slot_wd_get : Slot "wrapper_descriptor" "__get__" "wrapper_descriptor.__get__" :=
 .of (owner := "wrapper_descriptor") (n := "__get__") (by rw [typeLookup_type, builtinLookup_eq_fast]; kernel_rfl) (by decide +kernel) (by decide +kernel) (by decide +kernel)
  (by first | exact .inl (by decide +kernel) | exact .inr (by decide +kernel)) (by rw [isSubtype_type]; kernel_rfl)
theorem no_wd_set : typeLookup (.type "wrapper_descriptor") "__set__" = pure none := by rw [typeLookup_type, builtinLookup_eq_fast]; kernel_rfl
theorem no_wd_del : typeLookup (.type "wrapper_descriptor") "__delete__" = pure none := by rw [typeLookup_type, builtinLookup_eq_fast]; kernel_rfl
theorem entry_wd_get : entryFor table "wrapper_descriptor.__get__" = some Builtin.«wrapper_descriptor.__get__» := entryFor_of_tree (by kernel_rfl)
theorem args_wd_get (a b c : Value) : argsOk "wrapper_descriptor.__get__" ⟨[a, b, c], []⟩ := by unfold argsOk; kernel_rfl
noncomputable abbrev liObj (l : Addr) (i : Nat) : Obj := { cls := .type "list_iterator", data := .fields #[.ref l, .int i 0] }
noncomputable abbrev wrObj (it : Addr) : Obj := { cls := .type "method-wrapper", data := .fields #[.builtin "list_iterator.__next__", .ref it] }
theorem sub_li_owner : isSubtype (.type "list_iterator") (.type (".".intercalate ("list_iterator.__next__".cutAt '.').dropLast)) = pure true := by
 have e0 : "list_iterator.__next__".cutAt '.' = ["list_iterator", "__next__"] := by first | rfl | decide +kernel
 rw [e0]
 show isSubtype (.type "list_iterator") (.type "list_iterator") = _
 rw [isSubtype_type]; kernel_rfl
section
variable {prog : Program} {w : World} {A : Around} {E : Value → Shared → Prop} {h : Heap} {g : Array GenState} {d : Drawn} {t : Nat} {os : OsState} {a l : Addr} {i : Nat}
theorem next_get {R : Result → Shared → Prop} (hx : h.get? a = some (liObj l i)) (hq : R (.ok (.ret (.ref h.objs.size))) ⟨h.push (wrObj a), g, d, t, os⟩) :
  codeAny (model prog w) A (.call (.builtin "wrapper_descriptor.__get__") ⟨[.builtin "list_iterator.__next__", .ref a, .type "list_iterator"], []⟩) R ⟨h, g, d, t, os⟩ := by
 have hT : (⟨h, g, d, t, os⟩ : Shared).TypeIs (.ref a) "list_iterator" := ⟨_, hx, rfl⟩
 have hT5 : (⟨h, g, d, t, os⟩ : Shared).TypeIs (.builtin "list_iterator.__next__") "wrapper_descriptor" := typeOf_li_next
 refine codeAny_call_builtin slot_wd_get.plain entry_wd_get (slot_wd_get.check _ _ _ _ _ _ _ _ hT5 (args_wd_get _ _ _) ?_)
 unfold Builtin.«wrapper_descriptor.__get__»
 have f8 := sub_li_owner
 repeat (any_goals (first | assumption | wp_step))
theorem next_entry {tk : Tok} {Q : Fin → Shared → Prop} (hx : h.get? a = some (liObj l i)) (hq : Q (.done (.ret (.ref h.objs.size))) ⟨h.push (wrObj a), g, d, t, os⟩) :
  wpAny (model prog w) A (Builtin.«object.__getattribute__» ⟨[.ref a, .str "__next__" tk], []⟩) Q E ⟨h, g, d, t, os⟩ := by
 have hT : (⟨h, g, d, t, os⟩ : Shared).TypeIs (.ref a) "list_iterator" := ⟨_, hx, rfl⟩
 have hT5 : (⟨h, g, d, t, os⟩ : Shared).TypeIs (.builtin "list_iterator.__next__") "wrapper_descriptor" := typeOf_li_next
 have f4 := lk_li_next
 have f5 := typeOf_li_next
 have f6 := slot_wd_get.lookup
 have f7 := no_wd_set
 have f9 := no_wd_del
 repeat (any_goals (first | assumption | wp_step))
 refine next_get hx ?_
 repeat (any_goals (first | assumption | wp_step))
theorem next_call {tk : Tok} {R : Result → Shared → Prop} (hx : h.get? a = some (liObj l i)) (hq : R (.ok (.ret (.ref h.objs.size))) ⟨h.push (wrObj a), g, d, t, os⟩) :
  codeAny (model prog w) A (.call (.builtin "object.__getattribute__") ⟨[.ref a, .str "__next__" tk], []⟩) R ⟨h, g, d, t, os⟩ :=
 codeAny_call_builtin slot_li_ga.plain entry_li_ga (slot_li_ga.check _ _ _ _ _ _ _ _ (show (⟨h, g, d, t, os⟩ : Shared).TypeIs (.ref a) "list_iterator" from ⟨_, hx, rfl⟩) (args_li_ga _ _) (next_entry hx hq))
theorem next_by {tk : Tok} {Q : Value → Shared → Prop} (hx : h.get? a = some (liObj l i)) (hq : Q (.ref h.objs.size) ⟨h.push (wrObj a), g, d, t, os⟩) : wpAny (model prog w) A (getAttrBy (.ref a) (.str "__next__" tk) true true) Q E ⟨h, g, d, t, os⟩ := by
 have hT : (⟨h, g, d, t, os⟩ : Shared).TypeIs (.ref a) "list_iterator" := ⟨_, hx, rfl⟩
 have f2 := slot_li_ga.lookup
 have f3 := slot_li_ga.bind (.ref a)
 repeat (any_goals (first | assumption | wp_step))
 refine next_call hx ?_
 repeat (any_goals (first | assumption | wp_step))
end
end
section
open PySem PySem.W PyProof.Rows PySem.Calls PySem.Spec
structure NewX (h h' : Heap) (e : Addr) (cls : String) : Prop where
 keeps : ∀ b o, h.get? b = some o → h'.get? b = some o
 new : h.get? e = none
 there : ∃ ob vs a0, h'.get? e = some ob ∧ ob.cls = .type cls ∧ ob.data = .fields vs ∧ vs[1]? = some .none ∧ vs[0]? = some a0
section
variable {prog : Program} {w : World} {A₀ : Around} {E : Value → Shared → Prop} {s' : Shared} {base g g₀ h : Heap} {outer : List Env} {L a e : Addr} {m : Str → Option Value} {name : Str} {scope : Scope} {cd : Value}
 {n : Str} {b₀ : Stmt} {suite : List Stmt} {pos np : Pos} {rest : List ExceptHandler} {Q : Flow → Shared → Prop} {news : List (Addr × Obj)} {KF : Frag}
 {p : Program} {loose : List Str} {mean : ExcName → Option Value} {mg mb : Str → Option Value} {x : Str} {X T' : String}
theorem caught_new0 (hx : NewX h s'.heap e X) (F : Fr g L h m) (N : News g L h news) (K : Below A₀ base outer g) (XB : KF.In base) (TB : Top p loose mean mg mb base)
  (D : KtsDicts (outer.filterMap (·.frame)) g) (T0 : KtsTurn (outer.filterMap (·.frame)) g₀ g)
  (ex : nsIn KF mainGlobals x = some none) (hv : bootBuiltins x = some (.type T')) (hn' : x ≠ "__name__")
  (hexc : isSubtype (.type T') (.type "BaseException") = pure true) (hnt : isSubtype (.type ((Manifest.find? T').elim "type" fun y => y.metatype)) (.type "tuple") = pure false) (hsub : isSubtype (.type X) (.type T') = pure true)
  (k : ∀ h' g', KtsTurn (outer.filterMap (·.frame)) g₀ g' → Fr g' L h' m → News g' L h' news → Below A₀ base outer g' → KF.In g' → Top p loose mean mg mb g' → KtsDicts (outer.filterMap (·.frame)) g' →
   wpAny (model prog w) ((A₀.deeper (envOf name scope L a cd)).mark (some (.ref e))) (execs (b₀ :: suite) (envOf name scope L a cd)) Q E { s' with heap := h' })
  (hk : scope.kind = .function := by rfl) (hx' : (envOf name scope L a cd).kindOf x = some .globalImplicit := by rfl) (hd' : (x == ("__debug__" : Str)) = false := by decide)
  (hE : PassesOwnAt (model prog w) ((A₀.deeper (envOf name scope L a cd)).mark (some (.ref e))) (A₀.deeper (envOf name scope L a cd)) (envOf name scope L a cd) E := by passes_own) :
  wpAny (model prog w) (A₀.deeper (envOf name scope L a cd)) (noteFrame (.ref e) (envOf name scope L a cd))
   (fun _ s₂ => wpAny (model prog w) (A₀.deeper (envOf name scope L a cd)) (setFlight (.ref e) none) (fun _ s₃ =>
    wpAny (model prog w) (A₀.deeper (envOf name scope L a cd)) (handleBy (.ref e) (envOf name scope L a cd) (.ExceptHandler (some (.Name x np)) none (b₀ :: suite) pos :: rest)) Q E s₃) E s₂) E s' := by
 have K' := K.push (name := name) (a := a) (cd := cd) F hk
 have hin : ∀ env ∈ (envOf name scope L a cd :: outer), ∀ b, env.frame = some b → b ∈ (envOf name scope L a cd :: outer).filterMap (·.frame) := fun env he b hb => List.mem_filterMap.mpr ⟨env, he, hb⟩
 have hBG : ∀ b o, h.get? b = some o → b ∉ (envOf name scope L a cd :: outer).filterMap (·.frame) → (hideAll h ((envOf name scope L a cd :: outer).filterMap (·.frame))).get? b = some o := fun b o q nm => hideAll_get _ q nm
 have hl : ∀ q ∈ news, (hideAll h ((envOf name scope L a cd :: outer).filterMap (·.frame))).get? q.1 = some q.2 := fun q hq => by
  refine hideAll_get _ (N q hq).1 fun hm => ?_
  refine oEA (List.mem_filterMap.mp hm) fun env he hf => ?_
  rcases List.mem_cons.mp he with rfl | he
  ·exact (N q hq).2.1 (Option.some.inj hf).symm
  ·refine oEA ((K.frames.mem (List.mem_filterMap.mpr ⟨env, he, hf⟩)).2) fun o ho _ => ?_
   rw [(N q hq).2.2] at ho; cases ho
 refine oEEEAAAA (hx.there) fun ob vs tp he hcls hd h1 h0 => ?_
 have hen : (hideAll h ((envOf name scope L a cd :: outer).filterMap (·.frame))).get? e = none := by
  cases q : (hideAll h ((envOf name scope L a cd :: outer).filterMap (·.frame))).get? e with
  | none => rfl
  | some o => have := of_hideAll _ q; rw [hx.new] at this; cases this
 unfold noteFrame
 simp only [show (envOf name scope L a cd).frame = some L from rfl]
 refine wpAny_bind (wpAny_field he hd h1 ?_)
 rw [if_neg (by decide)]
 refine wpAny_newEntryW (a0 := tp) K'.stack ((funFrames_hide K'.frames hin).of_keeps fun b o hb _ => ⟨o, hx.keeps b o hb, rfl⟩) rfl he (fun b o hb => hx.keeps b o (of_hideAll _ hb)) hen hd (Array.getElem?_eq_some_iff.mp h1).1 h0 fun h₅ hL => ?_
 refine an3 (hL) fun k1 k2 k3 k4 => ?_
 try clear hL
 have hsm : h.UpToSlots h₅ := (Heap.UpToSlots.of_keeps hx.keeps).trans k4
 have hheld : Heap.FlyingW (hideAll h ((envOf name scope L a cd :: outer).filterMap (·.frame))) (envOf name scope L a cd :: outer) e (.type X) tp h₅ := ⟨k1, hen, k2, by rw [← hcls]; exact k3⟩
 refine oEAA (kts_ground K F hBG hheld.1 hsm) fun g₅ T₅ F₅ K₅ => ?_
 have X₅ : KF.In g₅ := XB.keeps K₅.stays
 have P₅ : TopRead p loose mg mb g₅ := topRead_of (TB.keeps K₅.stays)
 refine oEA (hheld.there) fun ob hob hobc => ?_
 refine wpAny_handleBy_builtin (X := X) (T := T') (b := true) hexc hnt hsub (name_B F₅ X₅ P₅ ex hv hn' ⟨rfl, ⟨ob, hob, hobc⟩, ?_⟩ hk hx' hd')
 refine lands_againW hheld fun h₆ hfl₆ hsm₆ => ?_
 refine oEAA (kts_ground K F hBG hfl₆.1 (hsm.trans hsm₆)) fun g₆ T₆ F₆ K₆ => ?_
 have Nl : News g₆ L h₆ news := fun q hq => ⟨hfl₆.1 _ _ (hl q hq), (N q hq).2.1, T₆.none_ _ (N q hq).2.2⟩
 have X₆ : KF.In g₆ := XB.keeps K₆.stays
 have P₆ : Top p loose mean mg mb g₆ := TB.keeps K₆.stays
 have D₆ : KtsDicts (outer.filterMap (·.frame)) g₆ := D.turn T₆
 exact wpAny_passesOwnAt hE (k h₆ g₆ (T0.trans T₆) F₆ Nl K₆ X₆ P₆ D₆)
end
section
variable {prog : Program} {w : World} {A : Around} {E : Value → Shared → Prop} {s : Shared} {h₀ : Heap} {L wr it l : Addr} {m : Str → Option Value} {news : Ledger} {items : List Value} {i ep : Nat} {x : Value}
theorem iterK {Q : Value → Shared → Prop} (F : Fr h₀ L s.heap m) (N : News h₀ L s.heap news) (hp : (l, listOf items.toArray ep) ∈ news)
  (h : ∀ (I : Addr) h', Fr h₀ L h' m → News h₀ L h' ((I, liObj l 0) :: news) → (∀ p ∈ news, p.1 < I) → Q (.ref I) { s with heap := h' }) :
  wpAny (model prog w) A (call (.builtin "iter") [.ref l]) Q E s := by
 refine call_function_entry (by decide +kernel) (by decide +kernel) kdk_entry_iter (kdk_args_iter _) ?_
 unfold Builtin.«iter»
 refine wpAny_bind (m := someArgs "iter" 1 2 _) (wpAny_of_eq (a := [Value.ref l]) (by first | rfl | kernel_rfl!) ?_)
 show wpAny _ _ (pyIter (.ref l) >>= _) _ _ _
 refine wpAny_bind (wpAny_pyIter_list (News.isList N hp) ?_)
 exact wpAny_pure ⟨_, rfl, h _ _ (F.push _) (News.push F N _ rfl) (fun q hq => Heap.lt_size (N q hq).1)⟩
theorem nextAttrK {Q : Value → Shared → Prop} (F : Fr h₀ L s.heap m) (N : News h₀ L s.heap news) (hp : (it, liObj l i) ∈ news)
  (h : ∀ (D : Addr) h', Fr h₀ L h' m → News h₀ L h' ((D, wrObj it) :: news) → (∀ p ∈ news, p.1 < D) → Q (.ref D) { s with heap := h', toks := s.toks + 1 }) :
  wpAny (model prog w) A (getAttr (.ref it) (Str.ofString "__next__") true) Q E s := by
 obtain ⟨hh, g, d, tk, os⟩ := s
 unfold getAttr
 refine wpAny_bind (wpAny_mkText ?_)
 exact next_by (N.get hp) (h _ _ (F.push _) (News.push F N _ rfl) (fun q hq => Heap.lt_size (N q hq).1))
theorem set_field {o' : Obj} (F : Fr h₀ L s.heap m) (N : News h₀ L s.heap news) {o : Obj} {f : Obj → Obj} (hp : (it, o) ∈ news) (hf : f o = o') (hfree : o'.isFreed = false) : Fr h₀ L (s.heap.update it f) m ∧ News h₀ L (s.heap.update it f) (setL news it o') := by
 have z := N _ hp
 have hs : Heap.SameBut it s.heap (s.heap.update it f) := Heap.SameBut.update ..
 refine ⟨F.change hs z.2.1 z.2.2, News.update N hp hs ?_⟩
 have := Heap.get?_update_self f z.1 (by rw [hf]; exact hfree)
 rw [this, hf]
theorem checkNext (a : Value) : checkBoundCall "list_iterator.__next__" ⟨[a], []⟩ = pure () := by kernel_rfl
theorem nextItemK {Q : Value → Shared → Prop} (F : Fr h₀ L s.heap m) (N : News h₀ L s.heap news) (hw : (wr, wrObj it) ∈ news) (hp : (it, liObj l i) ∈ news) (hl : (l, listOf items.toArray ep) ∈ news) (hx : items[i]? = some x)
  (h : ∀ h', Fr h₀ L h' m → News h₀ L h' (setL news it (liObj l (i + 1))) → Q x { s with heap := h' }) :
  wpAny (model prog w) A (call (.ref wr) []) Q E s := by
 refine wpAny_call ?_
 have hw' := N.get hw
 have hp' := N.get hp
 have hl' := N.get hl
 have hpp : (it, liObj l i) ∈ news := hp
 obtain ⟨hh, g, dr, t, os⟩ := s
 dsimp only at hw' hp' hl' F N
 refine codeAny_of_tree ?_
 show wpAny _ _ (callAny (.ref wr) _) _ _ _
 refine nd_load hw' ?_
 show wpAny _ _ (do checkBoundCall "list_iterator.__next__" ⟨[.ref it], []⟩; again (.builtin "list_iterator.__next__" ⟨[.ref it], []⟩)) _ _ _
 rw [checkNext]
 refine wpAny_bind (wpAny_pure ?_)
 refine wpAny_pure ⟨Code.quiet_builtin _ (by decide +kernel), codeAny_builtin entry_listiter_next ?_⟩
 show wpAny _ _ (field (.ref it) 0 >>= _) _ _ _
 refine wpAny_bind (wpAny_field hp' rfl (x := .ref l) rfl ?_)
 show wpAny _ _ (if (Value.ref l == Value.none) = true then _ else _) _ _ _
 rw [if_neg (show ¬ ((Value.ref l == Value.none) = true) from Bool.false_ne_true)]
 show wpAny _ _ (field (.ref it) 1 >>= _) _ _ _
 refine wpAny_bind (wpAny_field hp' rfl (x := .int i 0) rfl ?_)
 show wpAny _ _ (seqItems? (.ref l) >>= _) _ _ _
 refine wpAny_bind (wpAny_seqItems hl' rfl ?_)
 have hx' : items.toArray[i]? = some x := by simpa using hx
 simp only [Int.toNat_natCast, hx']
 refine wpAny_bind (wpAny_setField hp' rfl (by simp) ?_)
 refine wpAny_pure ?_
 refine an1 (set_field (s := ⟨hh, g, dr, t, os⟩) (o' := liObj l (i + 1)) (f := Obj.mapFields (·.setIfInBounds 1 (rawInt ((i : Int) + 1)))) F N hp rfl rfl) fun F' N' => ?_
 exact h _ F' N'
theorem nextEndK {Q : Value → Shared → Prop} (hA : A.handled = none) (F : Fr h₀ L s.heap m) (N : News h₀ L s.heap news) (hw : (wr, wrObj it) ∈ news) (hp : (it, liObj l i) ∈ news) (hl : (l, listOf items.toArray ep) ∈ news) (hx : items[i]? = none)
  (h : ∀ h₁ h' e, Fr h₀ L h₁ m → News h₀ L h₁ (setL news it { cls := .type "list_iterator", data := .fields #[.none, .int i 0] }) → NewX h₁ h' e "StopIteration" → E (.ref e) { s with heap := h' }) :
  wpAny (model prog w) A (call (.ref wr) []) Q E s := by
 refine wpAny_call ?_
 have hw' := N.get hw
 have hp' := N.get hp
 have hl' := N.get hl
 obtain ⟨hh, g, dr, t, os⟩ := s
 dsimp only at hw' hp' hl' F N
 refine codeAny_of_tree ?_
 show wpAny _ _ (callAny (.ref wr) _) _ _ _
 refine nd_load hw' ?_
 show wpAny _ _ (do checkBoundCall "list_iterator.__next__" ⟨[.ref it], []⟩; again (.builtin "list_iterator.__next__" ⟨[.ref it], []⟩)) _ _ _
 rw [checkNext]
 refine wpAny_bind (wpAny_pure ?_)
 refine wpAny_pure ⟨Code.quiet_builtin _ (by decide +kernel), codeAny_builtin entry_listiter_next ?_⟩
 show wpAny _ _ (field (.ref it) 0 >>= _) _ _ _
 refine wpAny_bind (wpAny_field hp' rfl (x := .ref l) rfl ?_)
 show wpAny _ _ (if (Value.ref l == Value.none) = true then _ else _) _ _ _
 rw [if_neg (show ¬ ((Value.ref l == Value.none) = true) from Bool.false_ne_true)]
 show wpAny _ _ (field (.ref it) 1 >>= _) _ _ _
 refine wpAny_bind (wpAny_field hp' rfl (x := .int i 0) rfl ?_)
 show wpAny _ _ (seqItems? (.ref l) >>= _) _ _ _
 refine wpAny_bind (wpAny_seqItems hl' rfl ?_)
 have hx' : items.toArray[i]? = none := by simpa using hx
 simp only [Int.toNat_natCast, hx']
 refine wpAny_bind (wpAny_rule (wpAny_bind (wpAny_setField hp' rfl (by simp) ?_)))
 refine an1 (set_field (s := ⟨hh, g, dr, t, os⟩) (o' := { cls := .type "list_iterator", data := .fields #[.none, .int i 0] }) (f := Obj.mapFields (·.setIfInBounds 0 Value.none)) F N hp rfl rfl) fun F' N' => ?_
 show wpAny _ _ (newExc (.type "StopIteration") [] >>= _) _ _ _
 refine wpAny_bind ?_
 simp only [newExc, newTuple]
 refine wpAny_bind (wpAny_newObj_type ?_ (by size_fits))
 refine wpAny_bind (m := firstArgMember _ _) (wpAny_of_eq (a := Value.none) (by first | rfl | (simp only [firstArgMember]; rfl)) ?_)
 refine wpAny_newObj_type ?_ (by size_fits)
 simp only [raiseNew]
 refine wpAny_bind (wpAny_handled ?_)
 rw [show (A.under (Code.builtin "list_iterator.__next__" { pos := [Value.ref it] })).handled = none from hA]
 refine wpAny_throw ?_
 refine h _ _ _ F' N' ⟨fun b o q => Heap.get?_push_of_some _ (Heap.get?_push_of_some _ q), ?_, _, _, _, Heap.get?_push_size _ rfl, rfl, rfl, rfl, rfl⟩
 exact Heap.get?_none_of_le (by simp [Heap.push])
end
end
section
open PySem PySem.W PyProof.Rows PySem.Calls PySem.Spec
noncomputable def CutG (L : Addr) (s : Shared) (P : Heap → FMap → Ledger → Prop) (s₂ : Shared) : Prop :=
 ∃ g h' tk m' news', s₂ = { s with heap := h', toks := tk } ∧ Fr g L h' m' ∧ News g L h' news' ∧ P g m' news'
theorem CutG.mk {g : Heap} {L : Addr} {s : Shared} {P : Heap → FMap → Ledger → Prop} {h' : Heap} {tk : Nat} {m' : FMap} {news' : Ledger} (F : Fr g L h' m') (N : News g L h' news') (hp : P g m' news') :
  CutG L s P { s with heap := h', toks := tk } := ⟨g, h', tk, m', news', rfl, F, N, hp⟩
noncomputable def WPostG (L : Addr) (s : Shared) (J : Nat → Heap → FMap → Ledger → Prop) (n : Nat) (Q : Flow → Shared → Prop) : Flow → Shared → Prop
 | .next, s' => ∃ n', n' < n ∧ CutG L s (J n') s'
 | .cont, s' => ∃ n', n' < n ∧ CutG L s (J n') s'
 | .brk, s' => Q .next s'
 | .ret v, s' => Q (.ret v) s'
section
variable {prog : Program} {w : World} {A : Around} {Q : Flow → Shared → Prop} {s : Shared} {env : Env} {g₀ : Heap} {L : Addr} {m : FMap} {news : Ledger}
theorem WPostG.next {g : Heap} {J : Nat → Heap → FMap → Ledger → Prop} {n n' : Nat} {h' : Heap} {tk : Nat} {m' : FMap} {news' : Ledger} (F : Fr g L h' m') (N : News g L h' news') (hn : n' < n) (hp : J n' g m' news') :
  WPostG L s J n Q .next { s with heap := h', toks := tk } := ⟨n', hn, .mk F N hp⟩
theorem WPostG.ret {J : Nat → Heap → FMap → Ledger → Prop} {n : Nat} {v : Value} {s' : Shared} (h : Q (.ret v) s') : WPostG L s J n Q (.ret v) s' := h
theorem WPostG.brk {J : Nat → Heap → FMap → Ledger → Prop} {n : Nat} {s' : Shared} (h : Q .next s') : WPostG L s J n Q .brk s' := h
theorem While_genG {test : Expr} {body orelse : List Stmt} {pos : Pos} (J : Nat → Heap → FMap → Ledger → Prop) {n₀ : Nat}
  (F : Fr g₀ L s.heap m) (N : News g₀ L s.heap news) (hJ : J n₀ g₀ m news)
  (turn : ∀ n g m₁ news₁ h₁ tk₁, Fr g L h₁ m₁ → News g L h₁ news₁ → J n g m₁ news₁ →
   wpAny (model prog w) A (isTrue test env (eval test env)) (fun b s₂ =>
    if b = true then wpAny (model prog w) A (execs body env) (WPostG L s J n Q) NoE s₂ else wpAny (model prog w) A (execs orelse env) Q NoE s₂) NoE { s with heap := h₁, toks := tk₁ }) :
  wpAny (model prog w) A (exec (.While test body orelse pos) env) Q NoE s := by
 refine wpAny_While (codeAny_whileLoop (fun n s' => CutG L s (J n) s') ?_ n₀ ⟨g₀, s.heap, s.toks, m, news, rfl, F, N, hJ⟩)
 intro n s' hz9
 refine oEEEEEAAA (hz9) fun g h₁ tk₁ m₁ news₁ er1 F₁ N₁ J₁ => ?_
 try clear hz9
 subst er1
 refine wpAny_mono (turn n g m₁ news₁ h₁ tk₁ F₁ N₁ J₁) (fun b s₂ h₂ => ?_) (fun _ _ h => h.elim)
 cases b with
 | false =>
  simp only [Bool.false_eq_true, if_false] at h₂ ⊢
  exact wpAny_mono h₂ (fun _ _ h => h) (fun _ _ h => h.elim)
 | true =>
  simp only [if_true] at h₂ ⊢
  refine wpAny_mono h₂ (fun f s₃ h₃ => ?_) (fun _ _ h => h.elim)
  cases f <;> exact h₃
noncomputable def FPostG (L : Addr) (s : Shared) (J : Nat → Heap → FMap → Ledger → Prop) (I : Addr) (it : Obj) (i : Nat) (Q : Flow → Shared → Prop) : Flow → Shared → Prop
 | .next, s' => ∃ g h' tk m' news', s' = { s with heap := h', toks := tk } ∧ Fr g L h' m' ∧ News g L h' ((I, it) :: news') ∧ (∀ p ∈ news', p.1 ≠ I) ∧ J (i + 1) g m' news'
 | .cont, s' => ∃ g h' tk m' news', s' = { s with heap := h', toks := tk } ∧ Fr g L h' m' ∧ News g L h' ((I, it) :: news') ∧ (∀ p ∈ news', p.1 ≠ I) ∧ J (i + 1) g m' news'
 | .brk, s' => Q .next s'
 | .ret v, s' => Q (.ret v) s'
theorem FPostG.next {g : Heap} {J : Nat → Heap → FMap → Ledger → Prop} {I : Addr} {it : Obj} {i : Nat} {h' : Heap} {tk : Nat} {m' : FMap} {news' : Ledger} (F : Fr g L h' m') (N : News g L h' ((I, it) :: news')) (hi : ∀ p ∈ news', p.1 ≠ I) (hp : J (i + 1) g m' news') :
  FPostG L s J I it i Q .next { s with heap := h', toks := tk } := ⟨g, h', tk, m', news', rfl, F, N, hi, hp⟩
theorem FPostG.cont {g : Heap} {J : Nat → Heap → FMap → Ledger → Prop} {I : Addr} {it : Obj} {i : Nat} {h' : Heap} {tk : Nat} {m' : FMap} {news' : Ledger} (F : Fr g L h' m') (N : News g L h' ((I, it) :: news')) (hi : ∀ p ∈ news', p.1 ≠ I) (hp : J (i + 1) g m' news') :
  FPostG L s J I it i Q .cont { s with heap := h', toks := tk } := ⟨g, h', tk, m', news', rfl, F, N, hi, hp⟩
theorem FPostG.ret {J : Nat → Heap → FMap → Ledger → Prop} {I : Addr} {it : Obj} {i : Nat} {v : Value} {s' : Shared} (h : Q (.ret v) s') : FPostG L s J I it i Q (.ret v) s' := h
theorem forLoop_genG {target : Expr} {body orelse : List Stmt} {I : Addr} {fp : List Addr} {n : Nat} {P : Nat → Value → Prop} {St : Nat → Heap → Prop}
  (W : Walks prog w A I fp [I] n P St) (hL : env.locals ≠ I) (hI : g₀.get? I = none) (J : Nat → Heap → FMap → Ledger → Prop)
  (hst : St 0 s.heap) (hsome : ∀ i h, St i h → ∃ o, h.get? I = some o) (F : Fr g₀ env.locals s.heap m) (N : News g₀ env.locals s.heap news) (hn : ∀ p ∈ news, p.1 ≠ I) (h0 : J 0 g₀ m news)
  (keep : ∀ i g h h' m₁ news₁, St i h → (∀ o, h.get? I = some o → h'.get? I = some o) → Fr g env.locals h' m₁ → News g env.locals h' news₁ → J i g m₁ news₁ → St i h')
  (turn : ∀ i v g m₁ news₁ h₁ tk₁ it, i < n → P i v → J i g m₁ news₁ → (∀ p ∈ news₁, p.1 ≠ I) → Fr g env.locals h₁ m₁ → News g env.locals h₁ ((I, it) :: news₁) →
   wpAny (model prog w) A (assign target env v) (fun _ s₂ => wpAny (model prog w) A (execs body env) (FPostG env.locals s J I it i Q) NoE s₂) NoE { s with heap := h₁, toks := tk₁ })
  (done : ∀ g m₁ news₁ h₁ tk₁, J n g m₁ news₁ → Fr g env.locals h₁ m₁ → News g env.locals h₁ news₁ → wpAny (model prog w) A (execs orelse env) Q NoE { s with heap := h₁, toks := tk₁ })
  (ht : ∀ v, letOwnedTupleGo target (.ref I) v = pure () := by intro _; rfl) :
  codeAny (model prog w) A (.forLoop target (.ref I) body orelse env) (fun r s' => match r with | .ok f => Q f s' | .error e => cameBackBy (model prog w) A env NoE e s') s := by
 refine codeAny_forLoop (fun k s' => ∃ g h' tk m' news' i, s' = { s with heap := h', toks := tk } ∧ g.get? I = none ∧ St i h' ∧ Fr g env.locals h' m' ∧ News g env.locals h' news' ∧ (∀ p ∈ news', p.1 ≠ I) ∧ J i g m' news' ∧ i ≤ n ∧ k = n + 1 - i) ?_ (n + 1)
  ⟨g₀, s.heap, s.toks, m, news, 0, rfl, hI, hst, F, N, hn, h0, Nat.zero_le _, rfl⟩ ht
 intro k s' hz9
 refine oEEEEEEAAAAAAAA (hz9) fun g h' tk m' news' i er2 hIg hst' F' N' hn' hJ hi er3 => ?_
 try clear hz9
 subst er2
 subst er3
 have next : ∀ h₁ : Heap, (∀ b o, b ∉ [I] → h'.get? b = some o → h₁.get? b = some o) → Fr g env.locals h₁ m' ∧ News g env.locals h₁ news' := fun h₁ hk₁ =>
  ⟨⟨F'.ns.at' fun o e => hk₁ _ o (by simp [hL]) e, fun b o e => hk₁ b o (by simp; rintro rfl; rw [hIg] at e; cases e) (F'.keep b o e), F'.above⟩, fun p hp => ⟨hk₁ _ _ (by simp; exact hn' p hp) (N' p hp).1, (N' p hp).2⟩⟩
 by_cases hlt : i < n
 ·refine W.item i _ _ _ hlt hst' fun v h₁ tk₁ hP hst₁ hk₁ => ?_
  refine an1 (next h₁ hk₁) fun F₁ N₁ => ?_
  refine ex1 (hsome _ _ hst₁) fun it hit => ?_
  have N₂ : News g env.locals h₁ ((I, it) :: news') := fun p hp => by
   rcases List.mem_cons.mp hp with rfl | hp
   ·exact ⟨hit, Ne.symm hL, hIg⟩
   ·exact N₁ p hp
  refine wpAny_mono (turn i v g m' news' h₁ tk₁ it hlt hP hJ hn' F₁ N₂) (fun _ s₂ h₂ => wpAny_mono h₂ (fun f s₃ h₃ => ?_) fun _ _ h => h.elim) fun _ _ h => h.elim
  have go : (∃ g h' tk m' news', s₃ = { s with heap := h', toks := tk } ∧ Fr g env.locals h' m' ∧ News g env.locals h' ((I, it) :: news') ∧ (∀ p ∈ news', p.1 ≠ I) ∧ J (i + 1) g m' news') →
    ∃ m_1, m_1 < n + 1 - i ∧ ∃ g h' tk m' news' i, s₃ = { s with heap := h', toks := tk } ∧ g.get? I = none ∧ St i h' ∧ Fr g env.locals h' m' ∧ News g env.locals h' news' ∧ (∀ p ∈ news', p.1 ≠ I) ∧ J i g m' news' ∧ i ≤ n ∧ m_1 = n + 1 - i := by
   intro hz9
   refine oEEEEEAAAA (hz9) fun g₃ h₃' tk₃ m₃ news₃ er4 F₃ N₃ hn₃ hJ₃ => ?_
   try clear hz9
   subst er4
   refine ⟨n + 1 - (i + 1), by omega, g₃, h₃', tk₃, m₃, news₃, i + 1, rfl, (N₃ _ (.head _)).2.2, ?_, F₃, fun p hp => N₃ p (.tail _ hp), hn₃, hJ₃, hlt, rfl⟩
   exact keep (i + 1) g₃ h₁ h₃' m₃ news₃ hst₁ (fun o e => by rw [hit] at e; cases e; exact (N₃ _ (.head _)).1) F₃ (fun p hp => N₃ p (.tail _ hp)) hJ₃
  cases f with
  | ret v => exact h₃
  | brk => exact h₃
  | cont => exact go h₃
  | next => exact go h₃
 ·have hin : i = n := by omega
  subst hin
  refine W.done _ _ _ hst' fun h₁ tk₁ hk₁ => ?_
  refine an1 (next h₁ hk₁) fun F₁ N₁ => ?_
  exact wpAny_mono (done g m' news' h₁ tk₁ hJ F₁ N₁) (fun _ _ h => h) fun _ _ h => h.elim
variable {K : Type} [DecidableEq K] {knd : KeyKind prog w K}
theorem ForAt_dictG {target : Expr} {body orelse : List Stmt} {d : Addr} {kvs : List (K × Value)} {ep : Nat} (J : Nat → Heap → FMap → Ledger → Prop)
  (hh : A.handled = none) (lo : (d == sysModules) = false) (hd : s.heap.DictAt knd d kvs ep) (F : Fr g₀ env.locals s.heap m) (N : News g₀ env.locals s.heap news) (h0 : J 0 g₀ m news)
  (keep : ∀ i g h m₁ news₁, Fr g env.locals h m₁ → News g env.locals h news₁ → J i g m₁ news₁ → h.DictAt knd d kvs ep)
  (turn : ∀ i k x v g m₁ news₁ h₁ tk₁ I it, kvs[i]? = some (k, x) → knd.is k v = true → J i g m₁ news₁ → (∀ p ∈ news₁, p.1 ≠ I) → Fr g env.locals h₁ m₁ → News g env.locals h₁ ((I, it) :: news₁) →
   wpAny (model prog w) A (assign target env v) (fun _ s₂ => wpAny (model prog w) A (execs body env) (FPostG env.locals s J I it i Q) NoE s₂) NoE { s with heap := h₁, toks := tk₁ })
  (done : ∀ g m₁ news₁ h₁ tk₁, J kvs.length g m₁ news₁ → Fr g env.locals h₁ m₁ → News g env.locals h₁ news₁ → wpAny (model prog w) A (execs orelse env) Q NoE { s with heap := h₁, toks := tk₁ })
  (ht : ∀ I v, letOwnedTupleGo target (.ref I) v = pure () := by intro _ _; rfl) :
  ForAt prog w A target body orelse env Q (.ref d) s := by
 have hlt : d < s.heap.objs.size := hd.lt_size
 refine wpAny_pyIter_dict lo hd ?_
 have W := Walks.dictKeys (prog := prog) (w := w) (knd := knd) hh s.heap.objs.size d (Nat.ne_of_lt hlt) kvs ep
 refine forLoop_genG (s := { s with heap := _ }) (news := news) (m := m) (g₀ := g₀) W (Nat.ne_of_lt (locals_lt F)) (fresh_none F) J
  ⟨⟨_, Heap.get?_push_size _ rfl, rfl, rfl⟩, hd.push _⟩ (fun i h st => by obtain ⟨⟨o, ho, _⟩, _⟩ := st; exact ⟨o, ho⟩) (F.push _) (fun p hp => ⟨Heap.get?_push_of_some _ (N p hp).1, (N p hp).2⟩) (fun p hp => Nat.ne_of_lt (Heap.lt_size (N p hp).1)) h0 ?_ ?_ done (ht _)
 ·rintro i g h h' m₁ news₁ ⟨⟨o, ho, r⟩, _⟩ hI F' N' hJ
  exact ⟨⟨o, hI o ho, r⟩, keep i g h' m₁ news₁ F' N' hJ⟩
 ·rintro i v g m₁ news₁ h₁ tk₁ it hi ⟨k, x, hkx, hkv⟩ hJ hn F' N'
  exact turn i k x v g m₁ news₁ h₁ tk₁ _ it hkx hkv hJ hn F' N'
end
end
section
open PySem PySem.W PyProof.Rows PySem.Calls PySem.Spec
theorem frames_mem {env : Env} {L b : Addr} {outer : List Env} (hf : env.frame = some L) (hm : b ∈ (env :: outer).filterMap (·.frame)) : b = L ∨ b ∈ outer.filterMap (·.frame) := by
 refine oEA (List.mem_filterMap.mp hm) fun e' he hf' => ?_
 rcases List.mem_cons.mp he with rfl | he
 ·rw [hf] at hf'; exact .inl (Option.some.inj hf').symm
 ·exact .inr (List.mem_filterMap.mpr ⟨e', he, hf'⟩)
section
variable {prog : Program} {w : World} {A₀ A : Around} {s : Shared} {base h₀ g₀ : Heap} {env : Env} {outer : List Env} {L a : Addr} {m : Str → Option Value} {news : List (Addr × Obj)} {K : Frag} {p : Program} {loose : List Str} {mean : ExcName → Option Value} {mg mb : Str → Option Value}
  {R : Result → Shared → Prop} {name qual : Str} {params : Arguments} {body : List Stmt} {scope : Scope} {dV kV doc pm cdv ct oc : Value} {an od : Option Addr} {osl : Array (Option Value)} {f : Addr} {args : Args} {binds : List (Str × Value)}
theorem enter_facts (B : Below A₀ base outer h₀) (F : Fr h₀ L s.heap m) (N : News h₀ L s.heap news) (hA : A.frames = some (env :: outer)) (hf : env.frame = some L) (hke : env.scope.kind = .function) :
  ∃ oL es ep, (hideAll s.heap (news.map (·.1))).get? L = some oL ∧ oL.data = .dict es ep ∧ (∀ h', h'.get? L = some oL → Heap.Ns h' L m) ∧ (∀ (sl : Array (Option Value)) h', h'.get? L = some { oL with slots := sl } → Heap.Ns h' L m) ∧
   h₀.StaysIn (hideAll s.heap (news.map (·.1))) ∧ Below A base (env :: outer) (hideAll s.heap (news.map (·.1))) := by
 have nm : ∀ b o, h₀.get? b = some o → b ∉ news.map (·.1) := fun b o e q => by
  refine oEA (List.mem_map.mp q) fun p hp er1 => ?_
  subst er1
  rw [(N p hp).2.2] at e; cases e
 have st : h₀.StaysIn (hideAll s.heap (news.map (·.1))) := fun b o e => hideAll_get _ (F.keep b o e) (nm b o e)
 have hnew : base.get? L = none := by
  cases hq : base.get? L with
  | none => rfl
  | some o => exact absurd (Nat.lt_of_lt_of_le (Heap.lt_size (B.stays L o hq)) F.above) (Nat.lt_irrefl _)
 have fr₁ : s.heap.FunFrames base (env :: outer) := .cons (by rw [hke]; decide) hf F.ns hnew (B.frames.of_keeps fun b o e _ => ⟨o, F.keep b o e, rfl⟩)
 refine oEEEAAA (F.ns) fun oL es ep hL hLd hLk hLf => ?_
 have nL : L ∉ news.map (·.1) := fun q => by
  refine oEA (List.mem_map.mp q) fun p hp e => ?_
  exact (N p hp).2.1 e
 have hLg := hideAll_get (news.map (·.1)) hL nL
 exact ⟨oL, es, ep, hLg, hLd, fun h' e => ⟨oL, es, ep, e, hLd, hLk, hLf⟩, fun sl h' e => ⟨_, es, ep, e, hLd, hLk, hLf⟩, st, ⟨hA, fun b o e => st b o (B.stays b o e), funFrames_hideAll fr₁ fun env' he b hb hf' => by
  cases he with
  | head => rw [hf] at hf'; exact nL ((Option.some.inj hf' : L = b) ▸ hb)
  | tail _ he =>
   refine oEEA (funFrames_in B.frames env' he) fun L₁ o₁ hf₁ ho₁ => ?_
   rw [hf₁] at hf'
   exact nm L₁ o₁ ho₁ ((Option.some.inj hf' : L₁ = b) ▸ hb)⟩⟩
theorem code_defE (B : Below A₀ base outer h₀) (F : Fr h₀ L s.heap m) (X₀ : K.In h₀) (N : News h₀ L s.heap news) (T : Top p loose mean mg mb h₀) (hA : A.frames = some (env :: outer)) (hf : env.frame = some L) (hke : env.scope.kind = .function)
  (XB : K.In base) (TB : Top p loose mean mg mb base) (D : KtsDicts (outer.filterMap (·.frame)) h₀)
  (ho : K.lookup f = some ⟨oc, od, .func (fnOf name qual params body scope dV kV doc pm an cdv ct), osl⟩) (hcd : codeIn K cdv qual = true) (hroom : A.depth < recursionLimit)
  (hbind : BindsTo s (fnOf name qual params body scope dV kV doc pm an cdv ct) args binds) (hloc : ∀ y ∈ binds, scope.names.lookup y.1 = some .local)
  (h : ∀ g L' h₁, Fr h₀ L g m → Fr g L' h₁ (fun y => binds.reverse.lookup y) → News g L' h₁ news → Below A base (env :: outer) g → K.In g → Top p loose mean mg mb g → KtsDicts ((env :: outer).filterMap (·.frame)) g →
   wpAny (model prog w) (A.deeper (envOf qual scope L' f cdv)) (execs body (envOf qual scope L' f cdv))
    (fun fl s' => LeaveS ((env :: outer).filterMap (·.frame)) A₀ base outer K p loose mean mg mb h₀ h₀ L m g R (match fl with | .ret v => v | _ => .none) s')
    (fun e s' => wpAny (model prog w) (A.deeper (envOf qual scope L' f cdv)) (leaving (envOf qual scope L' f cdv) e) (fun _ s'' => R (.error e) s'') (fun e' s'' => R (.error e') s'') s')
    { s with heap := h₁, toks := s.toks + binds.length })
  (hco : scope.isCoroutine = false) (hgen : scope.isGenerator = false) (hk : scope.kind = .function)
  (hcell : ∀ x ∈ scope.names, x.2 ≠ .cell) : codeAny (model prog w) A (.call (.ref f) args) R s := by
 have X := X₀.keeps F.keep
 refine codeAny_call_def (fd := fnOf name qual params body scope dV kV doc pm an cdv ct) (body := body) (binds := binds) hroom (X _ _ ho) rfl (T.nolimit.keeps F.keep) (codeRec_of X hcd) rfl hbind hcell hloc (fun h₁ hns hk₁ => ?_) hco hgen hk
 refine oEEEAAAAA (enter_facts B F N hA hf hke) fun oL es ep hLg hLd hN hNs st B₂ => ?_
 refine wpAny_mono (h _ s.heap.objs.size h₁ ⟨hN _ hLg, st, F.above⟩ ⟨hns, fun b o e => hk₁ b o (of_hideAll _ e), Nat.le_of_eq (hideAll_size _ _)⟩
  (fun p hp => ⟨hk₁ _ _ (N p hp).1, Nat.ne_of_lt (Heap.lt_size (N p hp).1), hideAll_none _ (List.mem_map_of_mem hp)⟩) B₂ (X₀.keeps st) (T.keeps st) (fun b hb => by
   rcases frames_mem hf hb with rfl | hb
   ·exact ⟨oL, es, ep, hLg, hLd⟩
   ·refine oEEEA (D b hb) fun o es' n' ho' hd' => ?_
    exact ⟨o, es', n', st b o ho', hd'⟩)) (fun fl s' hl => ?_) fun _ _ y => y
 have nL₀ : h₀.get? L = none := kts_self F
 rcases hl with ⟨L', m', news', F', N', k⟩ | ⟨g', L', m', news', T', F', N', k⟩
 ·refine k ⟨hN _ (F'.keep _ _ hLg), fun b o e => F'.keep b o (st b o e), F.above⟩ fun p hp => ⟨(N' p hp).1, fun q => ?_, ?_⟩
  ·have := (N' p hp).2.2; rw [q, hLg] at this; cases this
  ·cases q : h₀.get? p.1 with
   | none => rfl
   | some o => have := (N' p hp).2.2; rw [st _ _ q] at this; cases this
 refine ex1 (T'.up hLg) fun sl hs => ?_
 obtain ⟨T₁, S₁⟩ := kts_turn_at (h := s'.heap) (fs := outer.filterMap (·.frame)) (g := h₀)
  (fun b hb => by
   refine oAEA (B.frames.mem hb) fun _ o ho' _ => ?_
   exact ⟨o, ho'⟩)
  (fun b o e nmem => F'.keep b o (T'.other b o (st b o e) (fun q => by
   rcases frames_mem hf q with z | z
   ·rw [z, nL₀] at e
    cases e
   ·exact nmem z)))
  (fun b o e hm => by
   refine ex1 (T'.up (st b o e)) fun sl' hs' => ?_
   exact ⟨sl', F'.keep _ _ hs'⟩)
 have B₃ : Below A₀ base outer (ktsHeap s'.heap (outer.filterMap (·.frame)) h₀) := ⟨B.stack, fun b o e => T₁.other b o (B.stays b o e) (fun hm => by
  rw [(B.frames.mem hm).1] at e
  cases e), B.frames.of_keeps fun b o e _ => by
  refine ex1 (T₁.up e) fun sl' hs' => ?_
  exact ⟨_, hs', rfl⟩⟩
 refine k _ T₁ ⟨hNs sl _ (F'.keep _ _ hs), S₁, by rw [T₁.size]; exact F.above⟩ (fun p hp => ⟨(N' p hp).1, fun q => ?_, ?_⟩) B₃ (XB.keeps B₃.stays) (TB.keeps B₃.stays) (D.turn T₁)
 ·have := (N' p hp).2.2; rw [q, hs] at this; cases this
 ·refine T₁.none_ _ ?_
  cases q : h₀.get? p.1 with
  | none => rfl
  | some o =>
   refine ex1 (T'.up (st _ _ q)) fun sl' hs' => ?_
   have := (N' p hp).2.2
   rw [hs'] at this
   cases this
end
end
section
noncomputable def Ring (keys : List Int) (succ : Int → List Int) : Prop := ∃ C : List Int, C ≠ [] ∧ ∀ k ∈ C, k ∈ keys ∧ ∃ j ∈ C, k ∈ succ j
noncomputable def Ranked (keys : List Int) (succ : Int → List Int) : Prop := ∃ f : Int → Nat, ∀ k ∈ keys, ∀ j ∈ succ k, f j < f k
noncomputable def UpTo (succ : Int → List Int) (fin : List Int) (k : Int) (p : Nat) : Prop := ∀ i, i < p → ∀ j, (succ k)[i]? = some j → j ∈ fin
noncomputable def BelowT (succ : Int → List Int) (fin : List Int) : Int → List (Int × Nat) → Prop
 | _, [] => True
 | c, (k, p) :: r => (∃ q, p = q + 1 ∧ (succ k)[q]? = some c ∧ UpTo succ fin k q) ∧ BelowT succ fin k r
noncomputable def PathT (succ : Int → List Int) (fin : List Int) : List (Int × Nat) → Prop
 | [] => True
 | (k, p) :: r => (p ≤ (succ k).length ∧ UpTo succ fin k p) ∧ BelowT succ fin k r
noncomputable def FinOK (succ : Int → List Int) : List Int → Prop
 | [] => True
 | k :: fin => (k ∉ fin ∧ ∀ j ∈ succ k, j ∈ fin) ∧ FinOK succ fin
structure Dfs (keys : List Int) (succ : Int → List Int) (fr : List (Int × Nat)) (fin : List Int) (S : Int → Bool) : Prop where
 keysOK : ∀ x ∈ fr, x.1 ∈ keys
 nodup : (fr.map (·.1)).Nodup
 seen : ∀ k, S k = true ↔ k ∈ fr.map (·.1) ∨ k ∈ fin
 apart : ∀ x ∈ fr, x.1 ∉ fin
 fin : FinOK succ fin
section
variable {keys : List Int} {succ : Int → List Int} {fr : List (Int × Nat)} {fin : List Int} {S : Int → Bool}
theorem UpTo.mono {fin' : List Int} (h : ∀ j ∈ fin, j ∈ fin') {k : Int} {p : Nat} (u : UpTo succ fin k p) : UpTo succ fin' k p := fun i hi j hj => h j (u i hi j hj)
theorem BelowT.mono {fin' : List Int} (h : ∀ j ∈ fin, j ∈ fin') : ∀ {fr : List (Int × Nat)} {c : Int}, BelowT succ fin c fr → BelowT succ fin' c fr
 | [], _, _ => trivial
 | (k, p) :: r, c, ⟨⟨q, e, hq, u⟩, b⟩ => ⟨⟨q, e, hq, u.mono h⟩, BelowT.mono h b⟩
theorem path_seen {c : Int} (hne : fr ≠ []) (b : BelowT succ fin c fr) (hc : c ∈ fin) : PathT succ fin fr := by
 cases fr with
 | nil => exact absurd rfl hne
 | cons x r =>
  obtain ⟨k, p⟩ := x
  obtain ⟨⟨q, rfl, hq, u⟩, b⟩ := b
  refine ⟨⟨(List.getElem?_eq_some_iff.mp hq).1, fun i hi j hj => ?_⟩, b⟩
  rcases Nat.lt_succ_iff_lt_or_eq.mp hi with h | h
  ·exact u i h j hj
  ·subst h; rw [hq] at hj; cases hj; exact hc
theorem path_push {c : Int} (b : BelowT succ fin c fr) : PathT succ fin ((c, 0) :: fr) := ⟨⟨Nat.zero_le _, fun i hi => absurd hi (Nat.not_lt_zero i)⟩, b⟩
theorem path_draw {k c : Int} {p : Nat} {r : List (Int × Nat)} (h : PathT succ fin ((k, p) :: r)) (hc : (succ k)[p]? = some c) : BelowT succ fin c ((k, p + 1) :: r) := ⟨⟨p, rfl, hc, h.1.2⟩, h.2⟩
theorem path_pop {k : Int} {p : Nat} {r : List (Int × Nat)} (h : PathT succ fin ((k, p) :: r)) : PathT succ (k :: fin) r := by
 refine an1 (h) fun _ b => ?_
 try clear h
 have b' := b.mono (fin' := k :: fin) (fun j hj => .tail _ hj)
 cases r with
 | nil => trivial
 | cons x r => exact path_seen (List.cons_ne_nil _ _) b' (.head _)
theorem all_done {k : Int} {p : Nat} {r : List (Int × Nat)} (h : PathT succ fin ((k, p) :: r)) (hc : (succ k)[p]? = none) : ∀ j ∈ succ k, j ∈ fin := fun j hj => by
 obtain ⟨i, hi, e⟩ := List.getElem_of_mem hj
 have hl : (succ k).length ≤ p := by simpa using hc
 exact h.1.2 i (Nat.lt_of_lt_of_le hi hl) j (by rw [List.getElem?_eq_getElem hi, e])
theorem Dfs.start : Dfs keys succ [] [] (fun _ => false) := ⟨fun _ h => (by cases h), .nil, fun k => by simp, fun _ h => (by cases h), trivial⟩
theorem Dfs.push {c : Int} (d : Dfs keys succ fr fin S) (hc : c ∈ keys) (hs : S c = false) : Dfs keys succ ((c, 0) :: fr) fin (fun k => S k || decide (k = c)) := by
 have hn : ¬ (c ∈ fr.map (·.1) ∨ c ∈ fin) := fun h => by rw [(d.seen c).mpr h] at hs; cases hs
 refine ⟨List.forall_mem_cons.mpr ⟨hc, d.keysOK⟩, ?_, fun k => ?_, List.forall_mem_cons.mpr ⟨fun h => hn (.inr h), d.apart⟩, d.fin⟩
 ·rw [List.map_cons]; exact List.nodup_cons.mpr ⟨fun h => hn (.inl h), d.nodup⟩
 ·rw [Bool.or_eq_true, d.seen k, decide_eq_true_eq, List.map_cons, List.mem_cons]
  constructor
  ·rintro ((h | h) | h)
   ·exact .inl (.inr h)
   ·exact .inr h
   ·exact .inl (.inl h)
  ·rintro ((h | h) | h)
   ·exact .inr h
   ·exact .inl (.inl h)
   ·exact .inl (.inr h)
theorem Dfs.step {k : Int} {p p' : Nat} {r : List (Int × Nat)} (d : Dfs keys succ ((k, p) :: r) fin S) : Dfs keys succ ((k, p') :: r) fin S := by
 obtain ⟨a, b, c, e, f⟩ := d
 exact ⟨fun x hx => by rcases List.mem_cons.mp hx with rfl | hx; exact a (k, p) (.head _); exact a x (.tail _ hx), b, c, fun x hx => by rcases List.mem_cons.mp hx with rfl | hx; exact e (k, p) (.head _); exact e x (.tail _ hx), f⟩
theorem Dfs.pop {k : Int} {p : Nat} {r : List (Int × Nat)} (d : Dfs keys succ ((k, p) :: r) fin S) (h : ∀ j ∈ succ k, j ∈ fin) : Dfs keys succ r (k :: fin) S := by
 obtain ⟨a, b, c, e, f⟩ := d
 rw [List.map_cons, List.nodup_cons] at b
 refine ⟨fun x hx => a x (.tail _ hx), b.2, fun j => ?_, fun x hx hf => ?_, ⟨⟨e (k, p) (.head _), h⟩, f⟩⟩
 ·rw [c j, List.map_cons, List.mem_cons, List.mem_cons]
  constructor
  ·rintro ((h | h) | h)
   ·exact .inr (.inl h)
   ·exact .inl h
   ·exact .inr (.inr h)
  ·rintro (h | h | h)
   ·exact .inl (.inr h)
   ·exact .inl (.inl h)
   ·exact .inr h
 ·rcases List.mem_cons.mp hf with h' | h'
  ·exact b.1 (List.mem_map.mpr ⟨x, hx, h'⟩)
  ·exact e x (.tail _ hx) h'
theorem ring_of : ∀ {fr : List (Int × Nat)} {c : Int}, BelowT succ fin c fr → ∀ t ∈ fr.map (·.1), ∃ C : List Int, t ∈ C ∧ (∀ k ∈ C, k ∈ fr.map (·.1)) ∧ (∃ j ∈ C, c ∈ succ j) ∧ ∀ k ∈ C, k ≠ t → ∃ j ∈ C, k ∈ succ j
 | [], c, _, t, ht => by cases ht
 | (k, p) :: r, c, ⟨⟨q, e, hq, u⟩, b⟩, t, ht => by
  have hck : c ∈ succ k := List.mem_of_getElem? hq
  rw [List.map_cons] at ht
  by_cases hkt : t = k
  ·exact ⟨[k], by rw [hkt]; exact .head _, fun j hj => by rw [List.mem_singleton.mp hj]; exact .head _, ⟨k, .head _, hck⟩, fun j hj hne => absurd ((List.mem_singleton.mp hj).trans hkt.symm) hne⟩
  ·have ht' : t ∈ r.map (·.1) := (List.mem_cons.mp ht).resolve_left hkt
   refine oEAAA (ring_of b t ht') fun C h1 h2 ob2 h4 => ?_
   obtain ⟨j, hj, hkj⟩ := ob2
   refine ⟨k :: C, .tail _ h1, fun x hx => ?_, ⟨k, .head _, hck⟩, fun x hx hne => ?_⟩
   ·rcases List.mem_cons.mp hx with rfl | hx
    ·exact .head _
    ·exact .tail _ (h2 x hx)
   ·rcases List.mem_cons.mp hx with rfl | hx
    ·exact ⟨j, .tail _ hj, hkj⟩
    ·refine oEA (h4 x hx hne) fun y hy hxy => ?_
     exact ⟨y, .tail _ hy, hxy⟩
theorem Dfs.ring {c : Int} (d : Dfs keys succ fr fin S) (b : BelowT succ fin c fr) (hc : c ∈ fr.map (·.1)) : Ring keys succ := by
 refine oEAAA (ring_of b c hc) fun C h1 h2 h3 h4 => ?_
 refine ⟨C, List.ne_nil_of_mem h1, fun k hk => ⟨?_, ?_⟩⟩
 ·refine oEA (List.mem_map.mp (h2 k hk)) fun x hx er3 => ?_
  subst er3
  exact d.keysOK x hx
 ·by_cases e : k = c
  ·rw [e]; exact h3
  ·exact h4 k hk e
noncomputable def rankF (k : Int) : List Int → Nat
 | [] => 0
 | j :: fin => if j = k then fin.length + 1 else rankF k fin
theorem rankF_le (k : Int) : ∀ fin : List Int, rankF k fin ≤ fin.length
 | [] => Nat.le_refl _
 | j :: fin => by
  unfold rankF
  have := rankF_le k fin
  rw [List.length_cons]
  split <;> omega
theorem rankF_lt : ∀ {fin : List Int}, FinOK succ fin → ∀ k ∈ fin, ∀ j ∈ succ k, rankF j fin < rankF k fin
 | [], _, k, hk, _, _ => by cases hk
 | x :: fin, ⟨⟨hx, hs⟩, hf⟩, k, hk, j, hj => by
  unfold rankF
  by_cases e : x = k
  ·subst e
   have hjf := hs j hj
   have hne : x ≠ j := fun e => hx (e ▸ hjf)
   rw [if_pos rfl, if_neg hne]
   have := rankF_le j fin
   omega
  ·have hk' : k ∈ fin := (List.mem_cons.mp hk).resolve_left (fun q => e q.symm)
   rw [if_neg e]
   have ih := rankF_lt hf k hk' j hj
   have hjf : j ∈ fin := by
    have : rankF j fin < rankF k fin := ih
    exact fin_closed hf k hk' j hj
   have hne : x ≠ j := fun e => hx (e ▸ hjf)
   rw [if_neg hne]
   exact ih
where fin_closed : ∀ {fin : List Int}, FinOK succ fin → ∀ k ∈ fin, ∀ j ∈ succ k, j ∈ fin
 | [], _, k, hk, _, _ => by cases hk
 | x :: fin, ⟨⟨hx, hs⟩, hf⟩, k, hk, j, hj => by
  rcases List.mem_cons.mp hk with rfl | hk
  ·exact .tail _ (hs j hj)
  ·exact .tail _ (fin_closed hf k hk j hj)
theorem Dfs.ranked (d : Dfs keys succ [] fin S) (h : ∀ k ∈ keys, S k = true) : Ranked keys succ := by
 refine ⟨fun k => rankF k fin, fun k hk j hj => ?_⟩
 have := (d.seen k).mp (h k hk)
 rcases this with h | h
 ·cases h
 ·exact rankF_lt d.fin k h j hj
noncomputable def unseen (keys : List Int) (S : Int → Bool) : Nat := (keys.filter fun k => !S k).length
noncomputable def fuel (keys : List Int) (succ : Int → List Int) (S : Int → Bool) (fr : List (Int × Nat)) : Nat := 20 * unseen keys S + (fr.map fun x => (succ x.1).length + 1 - x.2).sum
theorem unseen_le (keys : List Int) (S : Int → Bool) (c : Int) : unseen keys (fun k => S k || decide (k = c)) ≤ unseen keys S := by
 unfold unseen
 induction keys with
 | nil => exact Nat.le_refl _
 | cons x xs ih =>
  rw [List.filter_cons, List.filter_cons]
  by_cases h1 : S x = true
  ·rw [if_neg (by simp [h1]), if_neg (by simp [h1])]; exact ih
  ·by_cases h2 : x = c
   ·rw [if_neg (by simp [h2]), if_pos (by simp [h1])]; rw [List.length_cons]; omega
   ·rw [if_pos (by simp [h1, h2]), if_pos (by simp [h1])]; rw [List.length_cons, List.length_cons]; omega
theorem unseen_lt {keys : List Int} {S : Int → Bool} {c : Int} (hc : c ∈ keys) (hs : S c = false) : unseen keys (fun k => S k || decide (k = c)) + 1 ≤ unseen keys S := by
 induction keys with
 | nil => cases hc
 | cons x xs ih =>
  have hle := unseen_le xs S c
  unfold unseen at ih hle ⊢
  rw [List.filter_cons, List.filter_cons]
  by_cases h2 : x = c
  ·subst h2
   rw [if_neg (by simp), if_pos (by simp [hs]), List.length_cons]; omega
  ·have ih' := ih ((List.mem_cons.mp hc).resolve_left (Ne.symm h2))
   by_cases h1 : S x = true
   ·rw [if_neg (by simp [h1]), if_neg (by simp [h1])]; exact ih'
   ·rw [if_pos (by simp [h1, h2]), if_pos (by simp [h1]), List.length_cons, List.length_cons]; omega
theorem fuel_push {c : Int} (hc : c ∈ keys) (hs : S c = false) (hl : (succ c).length ≤ 12) : fuel keys succ (fun k => S k || decide (k = c)) ((c, 0) :: fr) < fuel keys succ S fr := by
 unfold fuel
 have := unseen_lt hc hs
 rw [List.map_cons, List.sum_cons]
 dsimp only
 omega
theorem fuel_draw {k c : Int} {p : Nat} {r : List (Int × Nat)} (hc : (succ k)[p]? = some c) : fuel keys succ S ((k, p + 1) :: r) < fuel keys succ S ((k, p) :: r) := by
 unfold fuel
 have := (List.getElem?_eq_some_iff.mp hc).1
 rw [List.map_cons, List.sum_cons, List.map_cons, List.sum_cons]
 dsimp only
 omega
theorem fuel_pop {k : Int} {p : Nat} {r : List (Int × Nat)} (hp : p ≤ (succ k).length) : fuel keys succ S r < fuel keys succ S ((k, p) :: r) := by
 unfold fuel
 rw [List.map_cons, List.sum_cons]
 dsimp only
 omega
end
end
section
open PySem PySem.W PyProof.Rows PySem.Calls PySem.Spec
structure F4 where
 nd : Int
 it : Addr
 wr : Addr
 p : Nat
structure Own where
 s : Addr
 t : Addr
 e : Addr
 m : Addr
noncomputable def Own.has (O : Own) (a : Addr) : Prop := a = O.s ∨ a = O.t ∨ a = O.e ∨ a = O.m
noncomputable abbrev fp (fr : List F4) : List (Int × Nat) := fr.map fun x => (x.nd, x.p)
structure DIn (w : World) (Y : Lay) (rest rest' : Ledger) (O : Own) (fr : List F4) (S : Int → Bool) (n : Nat) : Prop where
 old : ∀ p ∈ rest, p ∈ rest'
 stk : ∃ vs ep, (O.s, listOf vs.toArray ep) ∈ rest' ∧ IntsAre vs (fr.map (·.nd)).reverse
 its : ∃ ep, (O.t, listOf ((fr.map fun x => Value.ref x.wr).reverse).toArray ep) ∈ rest'
 ob : ∀ x ∈ fr, (x.wr, wrObj x.it) ∈ rest' ∧ (x.it, liObj (Y.sa x.nd) x.p) ∈ rest'
 seen : ∃ so, (O.e, so) ∈ rest' ∧ so.SetObjOf (intKind prg w) S n
 n2s : ∃ om kvs, (O.m, om) ∈ rest' ∧ om.IsDictOf (intKind prg w) kvs ∧ kvs.map (·.1) = (fr.map (·.nd)).reverse ∧ ∀ kv ∈ kvs, ∃ (i : Nat) (t : Tok), kv.2 = .int i t
 nm : (O.m == sysModules) = false
 dist : O.s ≠ O.t ∧ O.s ≠ O.e ∧ O.s ≠ O.m ∧ O.t ≠ O.e ∧ O.t ≠ O.m ∧ O.e ≠ O.m
 oldne : ∀ p ∈ rest, ¬ O.has p.1 ∧ ∀ x ∈ fr, p.1 ≠ x.it
 obne : ∀ x ∈ fr, ¬ O.has x.it ∧ ¬ O.has x.wr ∧ ∀ y ∈ fr, y.it ≠ x.wr ∧ (y.nd ≠ x.nd → y.it ≠ x.it)
section
variable {w : World} {Y : Lay} {rest rest' : Ledger} {O : Own} {fr : List F4} {S : Int → Bool} {n : Nat}
theorem Own.s_ (O : Own) : O.has O.s := .inl rfl
theorem Own.t_ (O : Own) : O.has O.t := .inr (.inl rfl)
theorem Own.e_ (O : Own) : O.has O.e := .inr (.inr (.inl rfl))
theorem Own.m_ (O : Own) : O.has O.m := .inr (.inr (.inr rfl))
theorem ne_own {a b : Addr} (h : ¬ O.has a) (hb : O.has b) : a ≠ b := fun e => h (e ▸ hb)
theorem DIn.draw {x : F4} {r : List F4} (d : DIn w Y rest rest' O (x :: r) S n) (hnd : ∀ y ∈ r, y.nd ≠ x.nd) : DIn w Y rest (setL rest' x.it (liObj (Y.sa x.nd) (x.p + 1))) O ({ x with p := x.p + 1 } :: r) S n := by
 refine an2 (d.obne x (.head _)) fun o1 o2 o3 => ?_
 have hx := (d.ob x (.head _)).2
 refine ⟨fun p hp => mem_set_ne (d.old p hp) ((d.oldne p hp).2 x (.head _)), ?_, ?_, ?_, ?_, ?_, d.nm, d.dist, ?_, ?_⟩
 ·refine oEEA (d.stk) fun vs ep a b => ?_
  exact ⟨vs, ep, mem_set_ne a (ne_own o1 O.s_).symm, b⟩
 ·refine ex1 (d.its) fun ep a => ?_
  exact ⟨ep, mem_set_ne a (ne_own o1 O.t_).symm⟩
 ·refine List.forall_mem_cons.mpr ⟨⟨mem_set_ne (d.ob x (.head _)).1 (o3 x (.head _)).1.symm, mem_set_self hx⟩, fun y hy => ?_⟩
  refine an1 (d.ob y (.tail _ hy)) fun a b => ?_
  refine an2 (d.obne y (.tail _ hy)) fun _ _ q3 => ?_
  exact ⟨mem_set_ne a (q3 x (.head _)).1.symm, mem_set_ne b ((q3 x (.head _)).2 (hnd y hy).symm).symm⟩
 ·refine oEA (d.seen) fun so a b => ?_
  exact ⟨so, mem_set_ne a (ne_own o1 O.e_).symm, b⟩
 ·refine oEEA (d.n2s) fun om kvs a b => ?_
  exact ⟨om, kvs, mem_set_ne a (ne_own o1 O.m_).symm, b⟩
 ·intro p hp
  refine an1 (d.oldne p hp) fun a b => ?_
  exact ⟨a, List.forall_mem_cons.mpr ⟨b x (.head _), fun y hy => b y (.tail _ hy)⟩⟩
 ·refine List.forall_mem_cons.mpr ⟨⟨o1, o2, List.forall_mem_cons.mpr ⟨⟨(o3 x (.head _)).1, fun h => absurd rfl h⟩, fun y hy => o3 y (.tail _ hy)⟩⟩, fun y hy => ?_⟩
  refine an2 (d.obne y (.tail _ hy)) fun q1 q2 q3 => ?_
  exact ⟨q1, q2, List.forall_mem_cons.mpr ⟨q3 x (.head _), fun z hz => q3 z (.tail _ hz)⟩⟩
theorem DIn.pop {x : F4} {r : List F4} {oI om : Obj} {vs : List Value} {ep eq : Nat} {kvs : List (Int × Value)} (d : DIn w Y rest rest' O (x :: r) S n) (hvs : IntsAre vs (r.map (·.nd)).reverse)
  (hom : om.IsDictOf (intKind prg w) kvs) (hk1 : kvs.map (·.1) = (r.map (·.nd)).reverse) (hk2 : ∀ kv ∈ kvs, ∃ (i : Nat) (t : Tok), kv.2 = .int i t) (hnd : ∀ y ∈ r, y.nd ≠ x.nd) :
  DIn w Y rest (setL (setL (setL (setL rest' x.it oI) O.s (listOf vs.toArray ep)) O.m om) O.t (listOf ((r.map fun x => Value.ref x.wr).reverse).toArray eq)) O r S n := by
 refine an2 (d.obne x (.head _)) fun o1 o2 o3 => ?_
 refine an5 (d.dist) fun e1 e2 e3 e4 e5 e6 => ?_
 have keep : ∀ {a : Addr} {o : Obj}, (a, o) ∈ rest' → ¬ O.has a → a ≠ x.it → (a, o) ∈ setL (setL (setL (setL rest' x.it oI) O.s (listOf vs.toArray ep)) O.m om) O.t (listOf ((r.map fun x => Value.ref x.wr).reverse).toArray eq) := fun h ho hi =>
  mem_set_ne (mem_set_ne (mem_set_ne (mem_set_ne h hi) (ne_own ho O.s_)) (ne_own ho O.m_)) (ne_own ho O.t_)
 refine ⟨fun p hp => keep (d.old p hp) (d.oldne p hp).1 ((d.oldne p hp).2 x (.head _)), ?_, ?_, ?_, ?_, ?_, d.nm, d.dist, ?_, ?_⟩
 ·refine oEEA (d.stk) fun us eu a b => ?_
  exact ⟨vs, ep, mem_set_ne (mem_set_ne (mem_set_self (mem_set_ne a (ne_own o1 O.s_).symm)) e3) e1, hvs⟩
 ·refine ex1 (d.its) fun eu a => ?_
  exact ⟨eq, mem_set_self (mem_set_ne (mem_set_ne (mem_set_ne a (ne_own o1 O.t_).symm) e1.symm) e5)⟩
 ·intro y hy
  refine an1 (d.ob y (.tail _ hy)) fun a b => ?_
  refine an2 (d.obne y (.tail _ hy)) fun q1 q2 q3 => ?_
  exact ⟨keep a q2 (q3 x (.head _)).1.symm, keep b q1 ((q3 x (.head _)).2 (hnd y hy).symm).symm⟩
 ·refine oEA (d.seen) fun so a b => ?_
  exact ⟨so, mem_set_ne (mem_set_ne (mem_set_ne (mem_set_ne a (ne_own o1 O.e_).symm) e2.symm) e6) e4.symm, b⟩
 ·refine oEEA (d.n2s) fun om' kvs' a b => ?_
  exact ⟨om, kvs, mem_set_ne (mem_set_self (mem_set_ne (mem_set_ne a (ne_own o1 O.m_).symm) e3.symm)) e5.symm, hom, hk1, hk2⟩
 ·intro p hp
  refine an1 (d.oldne p hp) fun a b => ?_
  exact ⟨a, fun y hy => b y (.tail _ hy)⟩
 ·intro y hy
  refine an2 (d.obne y (.tail _ hy)) fun q1 q2 q3 => ?_
  exact ⟨q1, q2, fun z hz => q3 z (.tail _ hz)⟩
theorem DIn.push {c : Int} {I W : Addr} {so om : Obj} {vs : List Value} {ep eq n' : Nat} {S' : Int → Bool} {kvs : List (Int × Value)} (d : DIn w Y rest rest' O fr S n) (hI : ∀ p ∈ rest', p.1 ≠ I) (hW : ∀ p ∈ rest', p.1 ≠ W) (hIW : I ≠ W)
  (hso : so.SetObjOf (intKind prg w) S' n') (hvs : IntsAre vs ((fr.map (·.nd)).reverse ++ [c])) (hom : om.IsDictOf (intKind prg w) kvs) (hk1 : kvs.map (·.1) = (fr.map (·.nd)).reverse ++ [c]) (hk2 : ∀ kv ∈ kvs, ∃ (i : Nat) (t : Tok), kv.2 = .int i t) :
  DIn w Y rest (setL (setL (setL ((W, wrObj I) :: (I, liObj (Y.sa c) 0) :: setL rest' O.e so) O.t (listOf ((fr.map fun x => Value.ref x.wr).reverse ++ [Value.ref W]).toArray eq)) O.m om) O.s (listOf vs.toArray ep)) O (⟨c, I, W, 0⟩ :: fr) S' n' := by
 refine an5 (d.dist) fun e1 e2 e3 e4 e5 e6 => ?_
 refine oEEA (d.stk) fun us eu hs _ => ?_
 refine ex1 (d.its) fun et ht => ?_
 refine oEA (d.seen) fun so0 hse _ => ?_
 refine oEEA (d.n2s) fun om0 kvs0 hm _ => ?_
 have nI : ¬ O.has I := fun h => h.elim (fun e => hI _ hs e.symm) fun h => h.elim (fun e => hI _ ht e.symm) fun h => h.elim (fun e => hI _ hse e.symm) fun e => hI _ hm e.symm
 have nW : ¬ O.has W := fun h => h.elim (fun e => hW _ hs e.symm) fun h => h.elim (fun e => hW _ ht e.symm) fun h => h.elim (fun e => hW _ hse e.symm) fun e => hW _ hm e.symm
 have keep1 : ∀ {a : Addr} {o : Obj}, (a, o) ∈ (W, wrObj I) :: (I, liObj (Y.sa c) 0) :: setL rest' O.e so → ¬ O.has a → (a, o) ∈ setL (setL (setL ((W, wrObj I) :: (I, liObj (Y.sa c) 0) :: setL rest' O.e so) O.t (listOf ((fr.map fun x => Value.ref x.wr).reverse ++ [Value.ref W]).toArray eq)) O.m om) O.s (listOf vs.toArray ep) := fun h ho =>
  mem_set_ne (mem_set_ne (mem_set_ne h (ne_own ho O.t_)) (ne_own ho O.m_)) (ne_own ho O.s_)
 have keep : ∀ {a : Addr} {o : Obj}, (a, o) ∈ rest' → ¬ O.has a → (a, o) ∈ setL (setL (setL ((W, wrObj I) :: (I, liObj (Y.sa c) 0) :: setL rest' O.e so) O.t (listOf ((fr.map fun x => Value.ref x.wr).reverse ++ [Value.ref W]).toArray eq)) O.m om) O.s (listOf vs.toArray ep) := fun h ho =>
  keep1 (.tail _ (.tail _ (mem_set_ne h (ne_own ho O.e_)))) ho
 refine ⟨fun p hp => keep (d.old p hp) (d.oldne p hp).1, ?_, ?_, ?_, ?_, ?_, d.nm, d.dist, ?_, ?_⟩
 ·refine ⟨vs, ep, mem_set_self (mem_set_ne (mem_set_ne (.tail _ (.tail _ (mem_set_ne hs e2))) e1) e3), ?_⟩
  rw [List.map_cons, List.reverse_cons]; exact hvs
 ·refine ⟨eq, ?_⟩
  rw [List.map_cons, List.reverse_cons]
  exact mem_set_ne (mem_set_ne (mem_set_self (.tail _ (.tail _ (mem_set_ne ht e4)))) e5) e1.symm
 ·refine List.forall_mem_cons.mpr ⟨⟨keep1 (.head _) nW, keep1 (.tail _ (.head _)) nI⟩, fun y hy => ?_⟩
  refine an1 (d.ob y hy) fun a b => ?_
  refine an2 (d.obne y hy) fun q1 q2 q3 => ?_
  exact ⟨keep a q2, keep b q1⟩
 ·exact ⟨so, mem_set_ne (mem_set_ne (mem_set_ne (.tail _ (.tail _ (mem_set_self hse))) e4.symm) e6) e2.symm, hso⟩
 ·refine ⟨om, kvs, mem_set_ne (mem_set_self (mem_set_ne (.tail _ (.tail _ (mem_set_ne hm e6.symm))) e5.symm)) e3.symm, hom, ?_, ?_⟩
  ·rw [List.map_cons, List.reverse_cons]; exact hk1
  ·exact hk2
 ·intro p hp
  refine an1 (d.oldne p hp) fun a b => ?_
  exact ⟨a, List.forall_mem_cons.mpr ⟨hI p (d.old p hp), b⟩⟩
 ·refine List.forall_mem_cons.mpr ⟨⟨nI, nW, List.forall_mem_cons.mpr ⟨⟨hIW, fun h => absurd rfl h⟩, fun y hy => ⟨hW _ (d.ob y hy).2, fun _ => hI _ (d.ob y hy).2⟩⟩⟩, fun y hy => ?_⟩
  refine an2 (d.obne y hy) fun q1 q2 q3 => ?_
  exact ⟨q1, q2, List.forall_mem_cons.mpr ⟨⟨(hI _ (d.ob y hy).1).symm, fun _ => (hI _ (d.ob y hy).2).symm⟩, q3⟩⟩
theorem DIn.consOld {I : Addr} {it : Obj} (d : DIn w Y rest rest' O [] S n) (hI : ∀ p ∈ rest', p.1 ≠ I) : DIn w Y ((I, it) :: rest) ((I, it) :: rest') O [] S n := by
 refine oEEA (d.stk) fun us eu hs hs2 => ?_
 refine ex1 (d.its) fun et ht => ?_
 refine oEA (d.seen) fun so0 hse hse2 => ?_
 refine oEEA (d.n2s) fun om0 kvs0 hm hm2 => ?_
 have nI : ¬ O.has I := fun h => h.elim (fun e => hI _ hs e.symm) fun h => h.elim (fun e => hI _ ht e.symm) fun h => h.elim (fun e => hI _ hse e.symm) fun e => hI _ hm e.symm
 exact ⟨List.forall_mem_cons.mpr ⟨.head _, fun p hp => .tail _ (d.old p hp)⟩, ⟨us, eu, .tail _ hs, hs2⟩, ⟨et, .tail _ ht⟩, fun x hx => (by cases hx), ⟨so0, .tail _ hse, hse2⟩, ⟨om0, kvs0, .tail _ hm, hm2⟩, d.nm, d.dist,
  List.forall_mem_cons.mpr ⟨⟨nI, fun x hx => (by cases hx)⟩, d.oldne⟩, fun x hx => (by cases hx)⟩
theorem DIn.dropOld {I : Addr} {it : Obj} (d : DIn w Y ((I, it) :: rest) rest' O [] S n) (hr : ∀ p ∈ rest, p.1 ≠ I) : DIn w Y rest (dropA rest' I) O [] S n := by
 have nI := (d.oldne _ (.head _)).1
 have nO : ∀ {b : Addr}, O.has b → b ≠ I := fun h e => nI (e ▸ h)
 refine oEEA (d.stk) fun us eu hs hs2 => ?_
 refine ex1 (d.its) fun et ht => ?_
 refine oEA (d.seen) fun so0 hse hse2 => ?_
 refine oEEA (d.n2s) fun om0 kvs0 hm hm2 => ?_
 exact ⟨fun p hp => mem_drop (d.old p (.tail _ hp)) (hr p hp), ⟨us, eu, mem_drop hs (nO O.s_), hs2⟩, ⟨et, mem_drop ht (nO O.t_)⟩, fun x hx => (by cases hx), ⟨so0, mem_drop hse (nO O.e_), hse2⟩, ⟨om0, kvs0, mem_drop hm (nO O.m_), hm2⟩, d.nm, d.dist,
  fun p hp => d.oldne p (.tail _ hp), fun x hx => (by cases hx)⟩
end
noncomputable def Stopper : Prop := True
section
variable {prog : Program} {w : World} {A : Around} {Q : Flow → Shared → Prop} {s : Shared} {env : Env} {L : Addr}
theorem If_joinG {st : Stmt} {rest : List Stmt} (P2 : Heap → FMap → Ledger → Prop) (h1 : wpAny (model prog w) A (exec st env) (fun f s' => match f with | .next => CutG L s P2 s' | f => Q f s') NoE s)
  (h2 : ∀ g m₁ news₁ h₁ tk₁, Fr g L h₁ m₁ → News g L h₁ news₁ → P2 g m₁ news₁ → wpAny (model prog w) A (execs rest env) Q NoE { s with heap := h₁, toks := tk₁ }) :
  wpAny (model prog w) A (exec st env) (fun f s' => match f with | .next => wpAny (model prog w) A (execs rest env) Q NoE s' | f => Q f s') NoE s := by
 refine wpAny_mono h1 (fun f s' h => ?_) fun _ _ h => h
 cases f with
 | next =>
  refine oEEEEEAAA (h) fun g h' tk m' news' er1 F' N' hp => ?_
  try clear h
  subst er1
  exact h2 g m' news' h' tk F' N' hp
 | ret v => exact h
 | brk => exact h
 | cont => exact h
end
end
section
open PySem PySem.W PyProof.Rows PySem.Calls PySem.Spec
noncomputable def Stopper2 : Prop := True
noncomputable def Stopper3 : Prop := True
noncomputable def Stopper4 : Prop := True
noncomputable def Stopper5 : Prop := True
theorem stop_isExc : isSubtype (.type "StopIteration") (.type "BaseException") = pure true := by rw [isSubtype_type]; kernel_rfl
theorem stop_notTuple : isSubtype (.type ((Manifest.find? "StopIteration").elim "type" fun x => x.metatype)) (.type "tuple") = pure false := by rw [isSubtype_type]; kernel_rfl
theorem stop_sub : isSubtype (.type "StopIteration") (.type "StopIteration") = pure true := by rw [isSubtype_type]; kernel_rfl
section
variable {prog : Program} {w : World} {A : Around} {E : Value → Shared → Prop} {s : Shared} {h₀ : Heap} {L : Addr} {m : FMap} {news news' : Ledger}
theorem len_listK {l : Addr} {vs : List Value} {ep n : Nat} {Q : Value → Shared → Prop} (N : News h₀ L s.heap news) (hm : (l, listOf vs.toArray ep) ∈ news) (hn : vs.length = n) (hb : n ≤ 1000) (h : Q (.int n (s.toks + 1)) { s with toks := s.toks + 1 + 1 }) :
  wpAny (model prog w) A (call (.builtin "len") [.ref l]) Q E s := by
 have e : vs.toArray.size = n := by simp [hn]
 exact len_list (News.isList N hm) (by rw [e]; omega) (by rw [e]; exact h)
theorem item_lastK {value slice : PySem.Expr} {l : Addr} {p : List Value} {y : Value} {ep : Nat} {u : Tok} {Q : Value → Shared → Prop} (N : News h₀ L s.heap news) (hm : (l, listOf (p ++ [y]).toArray ep) ∈ news) (h : Q y s)
  (hs : subscripted slice false (.ref l) (.int (-1) u) = operate [.ref l, .int (-1) u] (getItem (.ref l) (.int (-1) u)) := by with_unfolding_all rfl) :
  wpAny (model prog w) A (subscriptTail value slice (.ref l) (.int (-1) u)) Q E s := by
 refine kde_neg (News.isList N hm) (by decide) (by decide) (j := p.length) ?_ (by simp) h hs
 rw [seqIndex_neg (by decide) (by rw [List.length_append]; simp; omega)]
 congr 1
 rw [List.length_append]; simp; omega
theorem pop_endK {D : Addr} {p : List Value} {y : Value} {n : Nat} {Q : Value → Shared → Prop} (F : Fr h₀ L s.heap m) (N : News h₀ L s.heap news) (U : Upd D (listOf (p ++ [y]).toArray n) (listOf p.toArray (n + 1)) news news')
  (hz : p.length ≤ 1000) (h : ∀ h', Fr h₀ L h' m → News h₀ L h' news' → Q y { s with heap := h' }) : wpAny (model prog w) A (call (.builtin "list.pop") [.ref D]) Q E s :=
 kl_pop F N (p := p) (y := y) (by simpa using kpa_last y p) U (by rw [sizeLine_eq]; simp; omega) h
theorem truthy_nilK {l : Addr} {ep : Nat} {Q : Bool → Shared → Prop} (N : News h₀ L s.heap news) (hm : (l, listOf #[] ep) ∈ news) (h : Q false { s with toks := s.toks + 1 + 1 }) : wpAny (model prog w) A (truthy (.ref l)) Q E s :=
 wpAny_truthy_list (items := #[]) ⟨_, N.get hm, rfl, _, rfl⟩ (by decide) h
theorem truthy_endK {l : Addr} {ep : Nat} {p : List Value} {y : Value} {Q : Bool → Shared → Prop} (N : News h₀ L s.heap news) (hm : (l, listOf (p ++ [y]).toArray ep) ∈ news) (hz : p.length ≤ 1000) (h : Q true { s with toks := s.toks + 1 + 1 }) : wpAny (model prog w) A (truthy (.ref l)) Q E s := by
 refine wpAny_truthy_list (News.isList N hm) (by rw [List.size_toArray, List.length_append]; simp; omega) ?_
 have e : (!(p ++ [y]).toArray.isEmpty) = true := by simp
 rw [e]; exact h
theorem callWith_wr {env : Env} {pos : Pos} {wr it : Addr} {Q : Value → Shared → Prop} (N : News h₀ L s.heap news) (hm : (wr, wrObj it) ∈ news) (h : wpAny (model prog w) A (call (.ref wr) []) Q E s) : wpAny (model prog w) A (callWith pos (.ref wr) [] (backTo pos (starEach [] env)) []) Q E s := by
 unfold callWith
 refine wpAny_bind (wpAny_holding (evalArgs_nil3 (wpAny_bind (wpAny_standAt ?_))))
 refine wpAny_bind (m := keeperOf (.ref wr)) ?_
 unfold keeperOf
 refine wpAny_bind (wpAny_load (N.get hm) ?_)
 have e1 : ((wrObj it).cls != Value.type "method") = true := show (Value.type "method-wrapper" != Value.type "method") = true by decide
 have e2 : ((wrObj it).cls == Value.type "builtin_function_or_method" || (wrObj it).cls == Value.type "method-wrapper") = true := show (Value.type "method-wrapper" == Value.type "builtin_function_or_method" || Value.type "method-wrapper" == Value.type "method-wrapper") = true by decide
 show wpAny _ _ (if ((wrObj it).cls != Value.type "method") = true then pure (if ((wrObj it).cls == Value.type "builtin_function_or_method" || (wrObj it).cls == Value.type "method-wrapper") = true then Keeper.machine else Keeper.caller) else _) _ _ _
 rw [if_pos e1, if_pos e2]
 refine wpAny_pure ?_
 exact wpAny_bind (wpAny_mono h (fun r s₂ hr => wpAny_bind (wpAny_holding (wpAny_point (wpAny_pure hr)))) fun _ _ x => x)
end
theorem stored_end {kvs : List (Int × Value)} {k : Int} {v : Value} (h : k ∉ kvs.map (·.1)) : stored kvs k v = kvs ++ [(k, v)] := by
 unfold stored
 rw [if_neg]
 simp only [Bool.not_eq_true, List.any_eq_false, decide_eq_true_eq]
 intro kv hkv e
 exact h (List.mem_map.mpr ⟨kv, hkv, e⟩)
theorem without_keys (kvs : List (Int × Value)) (k : Int) : (without kvs k).map (·.1) = (kvs.map (·.1)).filter fun j => decide (j ≠ k) := by
 unfold without
 rw [List.filter_map]; rfl
theorem without_last {kvs : List (Int × Value)} {ks : List Int} {k : Int} (h : kvs.map (·.1) = ks ++ [k]) (hk : k ∉ ks) : (without kvs k).map (·.1) = ks := by
 rw [without_keys, h, List.filter_append]
 have e1 : ks.filter (fun j => decide (j ≠ k)) = ks := List.filter_eq_self.mpr fun j hj => by simp only [decide_eq_true_eq]; rintro rfl; exact hk hj
 rw [e1]; simp
theorem intsAre_last : ∀ {ns : List Int} {n : Int} {vs : List Value}, IntsAre vs (ns ++ [n]) → ∃ vs' t, vs = vs' ++ [.int n t] ∧ IntsAre vs' ns
 | [], n, vs, h => by
  cases h with
  | cons x t h => cases h; exact ⟨[], t, rfl, .nil⟩
 | a :: ns, n, vs, h => by
  cases h with
  | cons x t h =>
   refine oEEA (intsAre_last h) fun vs' u er1 h' => ?_
   subst er1
   exact ⟨.int a t :: vs', u, rfl, .cons _ t h'⟩
theorem nodup_len : ∀ {l m : List Int}, l.Nodup → (∀ x ∈ l, x ∈ m) → l.length ≤ m.length
 | [], m, _, _ => Nat.zero_le _
 | x :: l, m, hn, h => by
  have hx := h x (.head _)
  have h1 := nodup_len (l := l) (m := m.erase x) (List.nodup_cons.mp hn).2 (fun y hy => (List.mem_erase_of_ne (fun (e : y = x) => (List.nodup_cons.mp hn).1 (e ▸ hy))).mpr (h y (.tail _ hy)))
  rw [List.length_erase_of_mem hx] at h1
  have := List.length_pos_of_mem hx
  rw [List.length_cons]; omega
end
section
open PySem PySem.W PyProof.Rows PySem.Calls PySem.Spec
structure LF (R : Ledger) (L : Addr) (c : Nat → Option Value) (rest : Ledger) : Prop where
 uniq : Uniq R
 cell : ∀ i, i < 7 → ∃ o, (L + 1 + i, o) ∈ R ∧ o.data = .cell (c i)
 rst : ∀ p ∈ rest, p ∈ R ∧ ∀ i, i < 7 → p.1 ≠ L + 1 + i
noncomputable abbrev setC (c : Nat → Option Value) (i : Nat) (v : Value) : Nat → Option Value := fun j => if j = i then some v else c j
section
variable {R : Ledger} {L : Addr} {c : Nat → Option Value} {rest : Ledger}
theorem LF.store (C : LF R L c rest) {i : Nat} {v : Value} {o : Obj} (hi : i < 7) (hd : o.data = .cell (some v)) : LF (setL R (L + 1 + i) o) L (setC c i v) rest := by
 refine ⟨C.uniq.set _ _, fun j hj => ?_, fun p hp => ⟨mem_set_ne (C.rst p hp).1 ((C.rst p hp).2 i hi), (C.rst p hp).2⟩⟩
 by_cases e : j = i
 ·subst e
  refine oEA (C.cell j hj) fun o' ho' _ => ?_
  exact ⟨o, mem_set_self ho', by rw [hd]; simp [setC]⟩
 ·refine oEA (C.cell j hj) fun o' ho' hd' => ?_
  exact ⟨o', mem_set_ne ho' (fun q => e (Nat.add_left_cancel q)), by rw [hd']; simp [setC, e]⟩
theorem LF.cons (C : LF R L c rest) {a : Addr} {o : Obj} (h : ∀ p ∈ R, p.1 ≠ a) : LF ((a, o) :: R) L c ((a, o) :: rest) := by
 refine ⟨C.uniq.cons_ne h, fun j hj => ?_, List.forall_mem_cons.mpr ⟨⟨.head _, fun i hi e => ?_⟩, fun p hp => ⟨.tail _ (C.rst p hp).1, (C.rst p hp).2⟩⟩⟩
 ·refine oEA (C.cell j hj) fun o' ho' hd' => ?_
  exact ⟨o', .tail _ ho', hd'⟩
 ·refine oEA (C.cell i hi) fun o' ho' _ => ?_
  exact h _ ho' e.symm
theorem LF.set (C : LF R L c rest) {a : Addr} {o o' : Obj} (h : (a, o) ∈ rest) : LF (setL R a o') L c (setL rest a o') := by
 refine an1 (C.rst _ h) fun h1 h2 => ?_
 refine ⟨C.uniq.set _ _, fun j hj => ?_, fun p hp => ?_⟩
 ·refine oEA (C.cell j hj) fun ob hob hd => ?_
  exact ⟨ob, mem_set_ne hob (Ne.symm (h2 j hj)), hd⟩
 ·refine oEA (List.mem_map.mp hp) fun q hq er1 => ?_
  subst er1
  by_cases e : q.1 = a
  ·rw [if_pos e]; exact ⟨mem_set_self h1, h2⟩
  ·rw [if_neg e]; exact ⟨mem_set_ne (C.rst q hq).1 e, (C.rst q hq).2⟩
theorem LF.sub (C : LF R L c rest) {rest' : Ledger} (h : ∀ p ∈ rest', p ∈ rest) : LF R L c rest' := ⟨C.uniq, C.cell, fun p hp => C.rst p (h p hp)⟩
theorem LF.up (C : LF R L c rest) {R' : Ledger} (U : Uniq R') (h : ∀ p ∈ R, p ∈ R') : LF R' L c rest :=
 ⟨U, fun i hi => by obtain ⟨o, ho, hd⟩ := C.cell i hi; exact ⟨o, h _ ho, hd⟩, fun p hp => ⟨h _ (C.rst p hp).1, (C.rst p hp).2⟩⟩
theorem LF.drop {a : Addr} {o : Obj} (C : LF R L c ((a, o) :: rest)) (hr : ∀ p ∈ rest, p.1 ≠ a) : LF (R.filter fun p => decide (p.1 ≠ a)) L c rest := by
 have hna := (C.rst _ (.head _)).2
 refine ⟨(List.Sublist.map _ List.filter_sublist).nodup C.uniq, fun i hi => ?_, fun p hp => ⟨List.mem_filter.mpr ⟨(C.rst p (.tail _ hp)).1, by simpa using hr p hp⟩, (C.rst p (.tail _ hp)).2⟩⟩
 refine oEA (C.cell i hi) fun ob hob hd => ?_
 exact ⟨ob, List.mem_filter.mpr ⟨hob, by simpa using Ne.symm (hna i hi)⟩, hd⟩
end
section
variable {M : Model} {A : Around} {E : Value → Shared → Prop} {s : Shared} {h₀ : Heap} {L a : Addr} {m : FMap} {cn : Str} {cs : Scope} {ccd : Value} {cl : List (Str × Addr)} {x : Str} {v : Value} {news rest : Ledger} {c : Nat → Option Value}
theorem store_LF {i : Nat} {Q : Unit → Shared → Prop} (C : LF news L c rest) (F : Fr h₀ L s.heap m) (N : News h₀ L s.heap news) (hc : cl.lookup x = some (L + 1 + i)) (hi : i < 7)
  (h : ∀ h' nw, Fr h₀ L h' m → News h₀ L h' nw → LF nw L (setC c i v) rest → Q () { s with heap := h' })
  (hk : cs.kind = .function := by rfl) (hx : (envX cn cs L a ccd cl).kindOf x = some .cell := by rfl) : wpAny M A (storeName (envX cn cs L a ccd cl) x v) Q E s := by
 refine oEA (C.cell i hi) fun o ho hd => ?_
 exact storeX_C F N hc (updF_uniq C.uniq ho) hd (fun h' o' F' N' hd' => h h' _ F' N' (C.store hi hd')) hk hx
theorem read_LF {i : Nat} {pos : Pos} {Q : Value → Shared → Prop} (C : LF news L c rest) (N : News h₀ L s.heap news) (hc : cl.lookup x = some (L + 1 + i)) (hi : i < 7) (hv : c i = some v) (h : Q v s)
  (hk : cs.kind = .function := by rfl) (hx : (envX cn cs L a ccd cl).kindOf x = some .cell := by rfl) (hb : (x == ("__debug__" : Str)) = false := by decide) : wpAny M A (eval (.Name x pos) (envX cn cs L a ccd cl)) Q E s := by
 refine oEA (C.cell i hi) fun o ho hd => ?_
 exact nameX_C N hc ho (by rw [hd, hv]) h hk hx hb
end
theorem nodup7 (L : Nat) : [L + 1 + 1 + 1 + 1 + 1 + 1 + 1, L + 1 + 1 + 1 + 1 + 1 + 1, L + 1 + 1 + 1 + 1 + 1, L + 1 + 1 + 1 + 1, L + 1 + 1 + 1, L + 1 + 1, L + 1].Nodup := by
 simp [List.nodup_cons]
 omega
theorem uniq7 {L : Addr} {a b c d e f g : Obj} : Uniq [(L + 1 + 1 + 1 + 1 + 1 + 1 + 1, a), (L + 1 + 1 + 1 + 1 + 1 + 1, b), (L + 1 + 1 + 1 + 1 + 1, c), (L + 1 + 1 + 1 + 1, d), (L + 1 + 1 + 1, e), (L + 1 + 1, f), (L + 1, g)] := nodup7 L
section
variable {M : Model} {A : Around} {E : Value → Shared → Prop} {s : Shared} {h₀ : Heap} {L : Addr} {m : FMap} {news rest : Ledger} {c : Nat → Option Value}
theorem newList_LF {vs : List Value} {Q : Value → Shared → Prop} (C : LF news L c rest) (F : Fr h₀ L s.heap m) (N : News h₀ L s.heap news) (hz : vs.length ≤ 1000)
  (h : ∀ D h' nw, Fr h₀ L h' m → News h₀ L h' nw → LF nw L c ((D, listOf vs.toArray 0) :: rest) → (∀ p ∈ news, p.1 < D) → Q (.ref D) { s with heap := h' }) : wpAny M A (newList vs) Q E s :=
 wpAny_newObj_type (h _ _ _ (F.push _) (News.push F N _ rfl) (C.cons fun p hp => Nat.ne_of_lt (Heap.lt_size (N p hp).1)) (fun p hp => Heap.lt_size (N p hp).1)) (by size_fits)
end
structure CV (c : Nat → Option Value) (i : Nat) (v : Value) : Prop where
 out : c i = some v
theorem CV.get {c c' : Nat → Option Value} {i : Nat} {v : Value} (h : CV c i v) (e : c' i = c i) : c' i = some v := e.trans h.out
section
variable {M : Model} {A : Around} {E : Value → Shared → Prop} {s : Shared} {h₀ : Heap} {L a : Addr} {m : FMap} {cn : Str} {cs : Scope} {ccd : Value} {cl : List (Str × Addr)} {x : Str} {v : Value} {news rest : Ledger} {c : Nat → Option Value}
theorem load_LF {i : Nat} {Q : Value → Shared → Prop} (C : LF news L c rest) (N : News h₀ L s.heap news) (hc : cl.lookup x = some (L + 1 + i)) (hi : i < 7) (hv : c i = some v) (h : Q v s)
  (hk : cs.kind = .function := by rfl) (hx : (envX cn cs L a ccd cl).kindOf x = some .cell := by rfl) : wpAny M A (loadName (envX cn cs L a ccd cl) x) Q E s := by
 refine oEA (C.cell i hi) fun o ho hd => ?_
 exact wpAny_loadName_cell hk hx hc ⟨o, N.get ho, by rw [hd, hv]⟩ h
end
noncomputable def lawIx (x : Str) : Option Nat := [(Str.ofString "cells", 0), (Str.ofString "total", 1), (Str.ofString "n", 2), (Str.ofString "k", 3), (Str.ofString "needs", 4), (Str.ofString "left", 5), (Str.ofString "free", 6)].lookup x
theorem lawIx_lt {x : Str} {i : Nat} (h : lawIx x = some i) : i < 7 := by
 unfold lawIx at h
 simp only [List.lookup] at h
 repeat' split at h
 all_goals (first | (injection h with h; omega) | nomatch h)
section
variable {M : Model} {A : Around} {E : Value → Shared → Prop} {s : Shared} {h₀ : Heap} {L a : Addr} {m : FMap} {cn : Str} {cs : Scope} {ccd : Value} {cl : List (Str × Addr)} {x : Str} {v : Value} {news rest : Ledger} {c : Nat → Option Value} {i : Nat}
theorem stF {Q : Unit → Shared → Prop} (ix : lawIx x = some i) (hx : (envX cn cs L a ccd cl).kindOf x = some .cell) (hk : cs.kind = .function) (C : LF news L c rest) (F : Fr h₀ L s.heap m) (N : News h₀ L s.heap news) (hc : cl.lookup x = some (L + 1 + i))
  (h : ∀ h' nw, Fr h₀ L h' m → News h₀ L h' nw → LF nw L (setC c i v) rest → Q () { s with heap := h' }) : wpAny M A (storeName (envX cn cs L a ccd cl) x v) Q E s := store_LF C F N hc (lawIx_lt ix) h hk hx
theorem rdF {pos : Pos} {Q : Value → Shared → Prop} (ix : lawIx x = some i) (hx : (envX cn cs L a ccd cl).kindOf x = some .cell) (hk : cs.kind = .function) (C : LF news L c rest) (N : News h₀ L s.heap news) (hc : cl.lookup x = some (L + 1 + i)) (hv : c i = some v) (h : Q v s)
  (hb : (x == ("__debug__" : Str)) = false := by decide) : wpAny M A (eval (.Name x pos) (envX cn cs L a ccd cl)) Q E s := read_LF C N hc (lawIx_lt ix) hv h hk hx hb
theorem loF {Q : Value → Shared → Prop} (ix : lawIx x = some i) (hx : (envX cn cs L a ccd cl).kindOf x = some .cell) (hk : cs.kind = .function) (C : LF news L c rest) (N : News h₀ L s.heap news) (hc : cl.lookup x = some (L + 1 + i)) (hv : c i = some v) (h : Q v s) :
  wpAny M A (loadName (envX cn cs L a ccd cl) x) Q E s := load_LF C N hc (lawIx_lt ix) hv h hk hx
end
theorem LF.set2 {R : Ledger} {L : Addr} {c : Nat → Option Value} {I D : Addr} {it o o' : Obj} (C : LF R L c [(I, it), (D, o)]) (h : D ≠ I) : LF (setL R D o') L c [(I, it), (D, o')] := by
 have C3 := C.set (o' := o') (.tail _ (.head _))
 rw [setL_cons, if_neg (fun e => h e.symm), setL_cons, if_pos rfl] at C3
 exact C3
theorem bound_set {cs : List Int} {k i : Nat} {y : Int} (hcl : cs.length = 6) (hk : k < 6) (hcb : ∀ x ∈ cs, 0 ≤ x ∧ x ≤ 37709824 + (i : Int) * 1000000000000000) (h0 : 0 ≤ y) (h1 : y < 1000000000000000) : ∀ x ∈ cs.set k (cs.getD k 0 + y), 0 ≤ x ∧ x ≤ 37709824 + ((i + 1 : Nat) : Int) * 1000000000000000 := by
 intro x hx
 have hk' : k < cs.length := by omega
 have hm : cs.getD k 0 ∈ cs := by
  rw [List.getD_eq_getElem?_getD, List.getElem?_eq_getElem hk']
  exact List.getElem_mem _
 have hb := hcb _ hm
 rcases List.mem_or_eq_of_mem_set hx with h | h
 ·have := hcb x h
  omega
 ·omega
theorem rsize {b : Int} {n : Nat} (h : b = (n : Int)) : Builtin.Range.rangeSize 0 b 1 = ((n : Nat) : Int) := by
 subst h
 rw [rangeSize_one]; by_cases h : (0 : Int) < n
 ·rw [if_pos h]; omega
 ·rw [if_neg h]; omega
theorem rsmall {b : Int} {n : Nat} (h : b = (n : Int)) (hn : n ≤ 1000) : Builtin.Range.small 0 b 1 = true := small_one (by decide) (by decide) (by omega) (by omega)
noncomputable def oldN (cs : List Int) (k : Nat) : Nat := (cs.getD k 0 % 256).toNat
noncomputable def newN (cs : List Int) (k : Nat) : Nat := (cs.getD k 0 / 256 % 256).toNat
theorem oldN_lt (cs : List Int) (k : Nat) : oldN cs k < 256 := by unfold oldN; omega
theorem newN_lt (cs : List Int) (k : Nat) : newN cs k < 256 := by unfold newN; omega
theorem execs_cut {M : Model} {A : Around} {env : Env} {Q : Flow → Shared → Prop} {s : Shared} {h₀ : Heap} {L : Addr} {m : FMap} {news : Ledger} {sts : List Stmt} (P : FMap → Ledger → Prop) (F : Fr h₀ L s.heap m) (N : News h₀ L s.heap news) (hp : P m news)
  (h : ∀ m₁ nw h₁ tk₁, Fr h₀ L h₁ m₁ → News h₀ L h₁ nw → P m₁ nw → wpAny M A (execs sts env) Q NoE { s with heap := h₁, toks := tk₁ }) : wpAny M A (execs sts env) Q NoE s := h m news s.heap s.toks F N hp
theorem off1_ne {D : Addr} : ∀ {l : Ledger}, LCg.Off1 D l → ∀ p ∈ l, p.1 ≠ D
 | [], _, _, h => nomatch h
 | _ :: _, x, p, h => by
  rcases List.mem_cons.mp h with rfl | h
  ·exact x.1
  ·exact off1_ne x.2 p h
theorem oldN_eq (cs : List Int) (i : Nat) : (cs.getD (i : Int).toNat 0).fmod 256 = ((oldN cs i : Nat) : Int) := by
 rw [Int.fmod_eq_emod_of_nonneg _ (by decide), Int.toNat_natCast]; unfold oldN; omega
theorem newN_eq (cs : List Int) (i : Nat) : ((cs.getD (i : Int).toNat 0).fdiv 256).fmod 256 = ((newN cs i : Nat) : Int) := by
 rw [Int.fmod_eq_emod_of_nonneg _ (by decide), Int.fdiv_eq_ediv_of_nonneg _ (by decide), Int.toNat_natCast]; unfold newN; omega
theorem range_snoc {f : Nat → Int} {i : Nat} : (List.range (i + 1)).map f = (List.range i).map f ++ [f i] := by rw [List.range_succ, List.map_append]; rfl
noncomputable def restN (cs : List Int) (k : Nat) : Int := cs.getD k 0 / 65536
noncomputable def namedF (cs : List Int) (n k : Nat) : List Int := [restN cs k % (2 * (n : Int)), restN cs k / (2 * (n : Int)) % (2 * (n : Int))]
noncomputable def needP (tot : Int) (n : Nat) (k j : Int) : Bool := decide (j < k ∨ (j < (n : Int) ∧ tot % 8 > 3))
noncomputable def needF (cs : List Int) (tot : Int) (n : Nat) (k : Int) : List Int := (namedF cs n k.toNat).filter (needP tot n k)
theorem named_eq (cs : List Int) (n i : Nat) : [((cs.getD (i : Int).toNat 0).fdiv 65536).fmod (2 * (n : Int)), (((cs.getD (i : Int).toNat 0).fdiv 65536).fdiv (2 * (n : Int))).fmod (2 * (n : Int))] = namedF cs n i := by
 unfold namedF restN
 rw [Int.toNat_natCast, Int.fdiv_eq_ediv_of_nonneg _ (show (0 : Int) ≤ 65536 by decide), Int.fmod_eq_emod_of_nonneg _ (show (0 : Int) ≤ 2 * (n : Int) by omega), Int.fdiv_eq_ediv_of_nonneg _ (show (0 : Int) ≤ 2 * (n : Int) by omega), Int.fmod_eq_emod_of_nonneg _ (show (0 : Int) ≤ 2 * (n : Int) by omega)]
theorem need_pos {xs : List Int} {tot : Int} {n i i' : Nat} {j : Int} (h : xs[i']? = some j) (hp : needP tot n i j = true) : (xs.take (i' + 1)).filter (needP tot n i) = (xs.take i').filter (needP tot n i) ++ [j] := by
 rw [List.take_add_one, h, Option.toList_some, List.filter_append, List.filter_cons, if_pos hp, List.filter_nil]
theorem need_neg {xs : List Int} {tot : Int} {n i i' : Nat} {j : Int} (h : xs[i']? = some j) (hp : needP tot n i j = false) : (xs.take (i' + 1)).filter (needP tot n i) = (xs.take i').filter (needP tot n i) := by
 rw [List.take_add_one, h, Option.toList_some, List.filter_append, List.filter_cons, if_neg (by rw [hp]; exact Bool.false_ne_true), List.filter_nil, List.append_nil]
theorem list_ne_dictOf {K : Type} [DecidableEq K] {prog : Program} {w : World} {knd : KeyKind prog w K} {o : Obj} {kvs : List (K × Value)} {its : Array Value} {e : Nat} (h : o.IsDictOf knd kvs) : listOf its e ≠ o := fun q => by
 refine oEEAA (h) fun es ep hex hes _ => ?_
 try clear h
 rw [← q] at hes
 cases hes
theorem stored_rng {i : Nat} {la : Int → Addr} {x : Addr} : stored ((rng i).map fun k => (k, Value.ref (la k))) (i : Int) (.ref x) = (rng (i + 1)).map fun k => (k, Value.ref (if k = (i : Int) then x else la k)) := by
 rw [stored_end (by rw [List.map_map]; intro h; obtain ⟨k, hk, e⟩ := List.mem_map.mp h; rw [mem_rng] at hk; simp at e; omega), rng_succ, List.map_append]
 congr 1
 ·apply List.map_congr_left
  intro k hk
  rw [mem_rng] at hk
  rw [if_neg (by omega)]
 ·simp
end
section
open PySem PySem.W PyProof.Rows PySem.Calls PySem.Spec
noncomputable def lastS : List Stmt → Stmt
 | [x] => x
 | _ :: y :: l => lastS (y :: l)
 | [] => .Pass ⟨0,0,0,0⟩
noncomputable def fnBody : Stmt → List Stmt
 | .FunctionDef _ _ b _ _ _ _ _ _ _ => b
 | _ => []
noncomputable def fnScope : Stmt → Scope
 | .FunctionDef _ _ _ _ _ _ sc _ _ _ => sc
 | _ => { kind := .function, names := [], isGenerator := false, isCoroutine := false }
noncomputable def lawD : Stmt := lastS PySem.Challenge.rw_ny0310_01.row.prog.main.body
noncomputable def lawB (k : Nat) : List Stmt := (fnBody lawD).drop k
noncomputable def lawS : Scope := fnScope lawD
noncomputable abbrev lawE (L fa : Addr) (w7 : Addr) : Env := envOfC (Str.ofString "law") lawS L fa (.ref w7)
end
section
noncomputable def freeF (need : Int → List Int) (left : List Int) : List Int := left.filter fun k => ((need k).filter fun j => decide (j ∈ left)).isEmpty
noncomputable def restF (need : Int → List Int) (left : List Int) : List Int := left.filter fun k => decide (k ∉ freeF need left)
noncomputable def leftI (need : Int → List Int) (n : Nat) : Nat → List Int
 | 0 => rng n
 | t + 1 => restF need (leftI need n t)
theorem mem_free {need : Int → List Int} {left : List Int} {k : Int} : k ∈ freeF need left ↔ k ∈ left ∧ ∀ j ∈ need k, j ∉ left := by
 unfold freeF
 rw [List.mem_filter]
 constructor
 ·rintro ⟨h, e⟩
  refine ⟨h, fun j hj hl => ?_⟩
  rw [List.isEmpty_iff] at e
  have : j ∈ (need k).filter fun j => decide (j ∈ left) := List.mem_filter.mpr ⟨hj, decide_eq_true hl⟩
  rw [e] at this
  cases this
 ·rintro ⟨h, e⟩
  refine ⟨h, ?_⟩
  rw [List.isEmpty_iff, List.filter_eq_nil_iff]
  intro j hj
  simpa using e j hj
theorem mem_rest {need : Int → List Int} {left : List Int} {k : Int} : k ∈ restF need left ↔ k ∈ left ∧ ∃ j ∈ need k, j ∈ left := by
 unfold restF
 rw [List.mem_filter, decide_eq_true_eq, mem_free]
 constructor
 ·rintro ⟨h, e⟩
  refine ⟨h, ?_⟩
  apply Classical.byContradiction
  intro q
  exact e ⟨h, fun j hj hl => q ⟨j, hj, hl⟩⟩
 ·rintro ⟨h, j, hj, hl⟩
  exact ⟨h, fun q => q.2 j hj hl⟩
theorem rest_len {need : Int → List Int} {left : List Int} (h : freeF need left ≠ []) : (restF need left).length < left.length := by
 refine ex1 (List.exists_mem_of_ne_nil _ h) fun k hk => ?_
 unfold restF
 have hkl := (mem_free.mp hk).1
 refine Nat.lt_of_le_of_ne (List.length_filter_le ..) fun e => ?_
 have := (List.length_filter_eq_length_iff).mp e k hkl
 simp [hk] at this
theorem rest_same {need : Int → List Int} {left : List Int} (h : freeF need left = []) : restF need left = left := by
 unfold restF
 rw [h]
 exact List.filter_eq_self.mpr fun k _ => by simp
theorem left_len (need : Int → List Int) (n : Nat) : ∀ t, freeF need (leftI need n t) = [] ∨ (leftI need n t).length + t ≤ n
 | 0 => .inr (by show (rng n).length + 0 ≤ n; unfold rng; simp)
 | t + 1 => by
  rcases left_len need n t with h | h
  ·left
   show freeF need (restF need _) = []
   rw [rest_same h, h]
  ·by_cases q : freeF need (leftI need n t) = []
   ·left
    show freeF need (restF need _) = []
    rw [rest_same q, q]
   ·right
    have := rest_len q
    show (restF need _).length + (t + 1) ≤ n
    omega
theorem left_end (need : Int → List Int) (n : Nat) : freeF need (leftI need n n) = [] := by
 rcases left_len need n n with h | h
 ·exact h
 ·have : leftI need n n = [] := List.length_eq_zero_iff.mp (by omega)
  rw [this]; rfl
theorem left_sub {need : Int → List Int} {n : Nat} : ∀ t, ∀ k ∈ leftI need n t, k ∈ rng n
 | 0, k, h => h
 | t + 1, k, h => left_sub t k (mem_rest.mp h).1
theorem ring_left {need : Int → List Int} {n : Nat} {keys : List Int} {succ : Int → List Int} (hk : ∀ k ∈ keys, k ∈ rng n) (hs : ∀ k ∈ keys, ∀ j ∈ keys, k ∈ succ j → j ∈ need k) (hsub : True) (R : ∃ C : List Int, C ≠ [] ∧ ∀ k ∈ C, k ∈ keys ∧ ∃ j ∈ C, k ∈ succ j) : leftI need n n ≠ [] := by
 refine oEA (R) fun C hne hC => ?_
 try clear R
 have all : ∀ t, ∀ k ∈ C, k ∈ leftI need n t := by
  intro t
  induction t with
  | zero => exact fun k h => hk k (hC k h).1
  | succ t ih =>
   intro k h
   refine oAEA (hC k h) fun hkk j hj hkj => ?_
   exact mem_rest.mpr ⟨ih k h, j, hs k hkk j (hC j hj).1 hkj, ih j hj⟩
 refine ex1 (List.exists_mem_of_ne_nil _ hne) fun k hkC => ?_
 exact List.ne_nil_of_mem (all n k hkC)
theorem max_rank (f : Int → Nat) : ∀ l : List Int, l ≠ [] → ∃ k ∈ l, ∀ j ∈ l, f j ≤ f k
 | [k], _ => ⟨k, .head _, fun j hj => by rw [List.mem_singleton.mp hj]; exact Nat.le_refl _⟩
 | k :: k' :: l, _ => by
  refine oEA (max_rank f (k' :: l) (List.cons_ne_nil _ _)) fun x hx hm => ?_
  by_cases h : f x ≤ f k
  ·exact ⟨k, .head _, List.forall_mem_cons.mpr ⟨Nat.le_refl _, fun j hj => Nat.le_trans (hm j hj) h⟩⟩
  ·exact ⟨x, .tail _ hx, List.forall_mem_cons.mpr ⟨by omega, hm⟩⟩
theorem ranked_left {need : Int → List Int} {n : Nat} {keys : List Int} {succ : Int → List Int} (hk : ∀ k ∈ rng n, k ∈ keys) (hs : ∀ k ∈ rng n, ∀ j ∈ need k, k ∈ succ j) (R : Ranked keys succ) : leftI need n n = [] := by
 apply Classical.byContradiction
 intro hne
 refine ex1 (R) fun f hf => ?_
 try clear R
 refine oEA (max_rank f _ hne) fun k hkl hm => ?_
 have hfree := left_end need n
 have hnf : k ∉ freeF need (leftI need n n) := by rw [hfree]; exact List.not_mem_nil
 have : ∃ j ∈ need k, j ∈ leftI need n n := by
  apply Classical.byContradiction
  intro q
  exact hnf (mem_free.mpr ⟨hkl, fun j hj hl => q ⟨j, hj, hl⟩⟩)
 refine oEA (this) fun j hj hl => ?_
 try clear this
 have h1 := hf j (hk j (left_sub n j hl)) k (hs k (left_sub n k hkl) j hj)
 have h2 := hm j hl
 omega
end
section
open PySem PySem.W PyProof.Rows PySem.Calls PySem.Spec
inductive Lists (rs : Ledger) : List Value → List (List Int) → Prop
 | nil : Lists rs [] []
 | cons {a : Addr} {us : List Value} {e : Nat} {xs : List Int} {vs : List Value} {xss : List (List Int)} (h : (a, listOf us.toArray e) ∈ rs) (hu : IntsAre us xs) (t : Lists rs vs xss) : Lists rs (.ref a :: vs) (xs :: xss)
theorem Lists.mono {rs rs' : Ledger} (f : ∀ {a : Addr} {us : List Value} {e : Nat}, (a, listOf us.toArray e) ∈ rs → (a, listOf us.toArray e) ∈ rs') : ∀ {vs xss}, Lists rs vs xss → Lists rs' vs xss
 | _, _, .nil => .nil
 | _, _, .cons h hu t => .cons (f h) hu (t.mono f)
theorem Lists.append {rs : Ledger} {ws : List Value} {yss : List (List Int)} (h2 : Lists rs ws yss) : ∀ {vs xss}, Lists rs vs xss → Lists rs (vs ++ ws) (xss ++ yss)
 | _, _, .nil => h2
 | _, _, .cons h hu t => .cons h hu (Lists.append h2 t)
theorem Lists.length {rs : Ledger} : ∀ {vs xss}, Lists rs vs xss → vs.length = xss.length
 | _, _, .nil => rfl
 | _, _, .cons _ _ t => by rw [List.length_cons, List.length_cons, t.length]
noncomputable def dueI (need : Int → List Int) (n : Nat) : Nat → List (List Int)
 | 0 => []
 | t + 1 => if freeF need (leftI need n t) = [] then dueI need n t else dueI need n t ++ [freeF need (leftI need n t)]
theorem rangeKs_rng (n : Nat) : rangeKs 0 ((n : Int) - 0).toNat = rng n := by
 unfold rangeKs rng
 rw [Int.sub_zero, Int.toNat_natCast]
 apply List.map_congr_left
 intro i _
 omega
theorem dueI_len (need : Int → List Int) (n : Nat) : ∀ t, (dueI need n t).length ≤ t
 | 0 => Nat.le_refl _
 | t + 1 => by
  have := dueI_len need n t
  unfold dueI
  split
  ·omega
  ·rw [List.length_append, List.length_singleton]; omega
end
section
open PySem PySem.W PyProof.Rows PySem.Calls PySem.Spec PySem.SeqRoads2 PySem.MeetsSeq
section
variable {prog : Program} {w : World} {A : Around} {E : Value → Shared → Prop} {s : Shared} {h₀ : Heap} {L : Addr} {news : Ledger} {Q : Value → Shared → Prop}
theorem any_intsAre (k : Int) : ∀ {vs : List Value} {ns : List Int}, IntsAre vs ns → (vs.any fun y => match y with | .int i _ => i == k | _ => false) = decide (k ∈ ns)
 | _, _, .nil => by simp
 | _, _, .cons x t h => by
  rw [List.any_cons, any_intsAre k h]
  by_cases e : x = k
  ·subst e; simp
  ·have e' : ¬ k = x := fun q => e q.symm
   simp [e, e']
theorem ints_mem {vs : List Value} {ns : List Int} : IntsAre vs ns → ∀ y ∈ vs, ∃ a t, y = Value.int a t
 | .nil, _, h => by cases h
 | .cons x t r, y, h => by
  rcases List.mem_cons.mp h with rfl | h
  ·exact ⟨x, t, rfl⟩
  ·exact ints_mem r y h
theorem in_intsK {l : Addr} {vs : List Value} {ns : List Int} {ep : Nat} {k : Int} {t : Tok} (N : News h₀ L s.heap news) (hm : (l, listOf vs.toArray ep) ∈ news) (hi : IntsAre vs ns) (h : Q (.bool (decide (k ∈ ns))) s) :
  wpAny (model prog w) A (compareOp .In (.int k t) (.ref l)) Q E s := by
 refine in_list (items := vs.toArray) (n := ep) (fun y => match y with | .int i _ => i == k | _ => false) (fun y hy => ?_) (N.get hm) ?_
 ·refine ex2 (ints_mem hi y (by simpa using hy)) fun a u er1 => ?_
  subst er1
  exact EqGives.int a k u t
 ·rw [← Array.any_toList, any_intsAre k hi]; exact h
theorem notIn_intsK {l : Addr} {vs : List Value} {ns : List Int} {ep : Nat} {k : Int} {t : Tok} (N : News h₀ L s.heap news) (hm : (l, listOf vs.toArray ep) ∈ news) (hi : IntsAre vs ns) (h : Q (.bool (!decide (k ∈ ns))) s) :
  wpAny (model prog w) A (compareOp .NotIn (.int k t) (.ref l)) Q E s := by
 refine notIn_list (items := vs.toArray) (n := ep) (fun y => match y with | .int i _ => i == k | _ => false) (fun y hy => ?_) (N.get hm) ?_
 ·refine ex2 (ints_mem hi y (by simpa using hy)) fun a u er2 => ?_
  subst er2
  exact EqGives.int a k u t
 ·rw [← Array.any_toList, any_intsAre k hi]; exact h
end
end
section
open PySem PySem.W PyProof.Rows PySem.Calls PySem.Spec PySem.SeqAt
noncomputable def dI (xs : List Int) : PyData := .list (xs.map .int)
noncomputable def dS (ls : List (List Nat)) : PyData := .list (ls.map fun l => .str (mkS l))
noncomputable def dL (xss : List (List Int)) : PyData := .list (xss.map dI)
theorem readsA_ints {h : Heap} : ∀ {vs : List Value} {ns : List Int}, IntsAre vs ns → ReadsAll h vs (ns.map .int) []
 | _, _, .nil => .nil
 | _, _, .cons x t r => .cons (.int x t) (readsA_ints r)
theorem readsA_strs {h : Heap} : ∀ {vs : List Value} {ls : List (List Nat)}, StrsAre vs (ls.map mkS) → ReadsAll h vs (ls.map fun l => .str (mkS l)) []
 | vs, [], r => by
  have r' : StrsAre vs [] := r
  cases r'
  exact .nil
 | vs, l :: ls, r => by
  have r' : StrsAre vs (mkS l :: ls.map mkS) := r
  cases r' with
  | cons _ t r => exact .cons (.str (mkS l) t) (readsA_strs r)
section
variable {h₀ h : Heap} {L : Addr} {news : Ledger}
theorem reads_ints (N : News h₀ L h news) {l : Addr} {vs : List Value} {ns : List Int} {ep : Nat} (hm : (l, listOf vs.toArray ep) ∈ news) (hi : IntsAre vs ns) : Reads h (.ref l) (dI ns) [l] :=
 .list (N.get hm) rfl rfl (readsA_ints hi)
theorem reads_strs (N : News h₀ L h news) {l : Addr} {vs : List Value} {ls : List (List Nat)} {ep : Nat} (hm : (l, listOf vs.toArray ep) ∈ news) (hi : StrsAre vs (ls.map mkS)) : Reads h (.ref l) (dS ls) [l] :=
 .list (N.get hm) rfl rfl (readsA_strs hi)
theorem readsA_lists (N : News h₀ L h news) : ∀ {vs : List Value} {xss : List (List Int)}, Lists news vs xss → ∃ as, ReadsAll h vs (xss.map dI) as
 | _, _, .nil => ⟨_, .nil⟩
 | _, _, .cons hm hu t => by
  refine ex1 (readsA_lists N t) fun as r => ?_
  exact ⟨_, .cons (reads_ints N hm hu) r⟩
theorem reads_lists (N : News h₀ L h news) {l : Addr} {vs : List Value} {xss : List (List Int)} {ep : Nat} (hm : (l, listOf vs.toArray ep) ∈ news) (hi : Lists news vs xss) : ∃ as, Reads h (.ref l) (dL xss) as := by
 refine ex1 (readsA_lists N hi) fun as r => ?_
 exact ⟨_, .list (N.get hm) rfl rfl r⟩
end
theorem canA_ints : ∀ xs : List Int, PyData.canLayAll0 (xs.map .int) = true
 | [] => by simp [PyData.canLayAll0]
 | x :: xs => by simp [PyData.canLayAll0, PyData.canLay0, canA_ints xs]
theorem depA_ints : ∀ xs : List Int, PyData.depthAll (xs.map .int) = 0
 | [] => by simp [PyData.depthAll]
 | x :: xs => by simp [PyData.depthAll, PyData.depth, depA_ints xs]
theorem shaped_I (xs : List Int) : shaped (dI xs) = true := by
 unfold shaped dI
 simp [PyData.canLay0, PyData.depth, canA_ints, depA_ints]
theorem canA_lists : ∀ xs : List (List Int), PyData.canLayAll0 (xs.map dI) = true
 | [] => by simp [PyData.canLayAll0]
 | x :: xs => by simp [PyData.canLayAll0, canA_lists xs, canLay_of_shaped (shaped_I x)]
theorem depA_lists : ∀ xs : List (List Int), PyData.depthAll (xs.map dI) ≤ 1
 | [] => by simp [PyData.depthAll]
 | x :: xs => by
  have := depA_lists xs
  have e : PyData.depth (dI x) = 1 := by simp [dI, PyData.depth, depA_ints]
  simp only [List.map_cons, PyData.depthAll, e]
  omega
theorem shaped_L (xs : List (List Int)) : shaped (dL xs) = true := by
 have := depA_lists xs
 unfold shaped dL
 simp only [PyData.canLay0, PyData.depth, canA_lists, Bool.true_and]
 exact decide_eq_true (by omega)
theorem strOk_mkS {l : List Nat} (h : ∀ c ∈ l, c < 256) : PyData.strOk (mkS l) = true := by
 unfold PyData.strOk
 simp only [List.all_toArray, List.all_eq_true, decide_eq_true_eq]
 intro c hc
 have := h c hc
 omega
theorem canA_strs : ∀ {ls : List (List Nat)}, (∀ l ∈ ls, ∀ c ∈ l, c < 256) → PyData.canLayAll0 (ls.map fun l => .str (mkS l)) = true
 | [], _ => by simp [PyData.canLayAll0]
 | l :: ls, h => by
  simp only [List.map_cons, PyData.canLayAll0, PyData.canLay0, strOk_mkS (h l (.head _)), canA_strs fun x hx => h x (.tail _ hx), Bool.and_self]
theorem depA_strs : ∀ ls : List (List Nat), PyData.depthAll (ls.map fun l => .str (mkS l)) = 0
 | [] => by simp [PyData.depthAll]
 | x :: xs => by simp [PyData.depthAll, PyData.depth, depA_strs xs]
theorem shaped_S {ls : List (List Nat)} (h : ∀ l ∈ ls, ∀ c ∈ l, c < 256) : shaped (dS ls) = true := by
 unfold shaped dS
 simp only [PyData.canLay0, PyData.depth, canA_strs h, depA_strs]
 decide
theorem eqvA_ints : ∀ xs ys : List Int, PyData.eqvAll (xs.map .int) (ys.map .int) = decide (xs = ys)
 | [], [] => by simp [PyData.eqvAll]
 | [], y :: ys => by simp [PyData.eqvAll]
 | x :: xs, [] => by simp [PyData.eqvAll]
 | x :: xs, y :: ys => by
  simp only [List.map_cons, PyData.eqvAll, PyData.eqv, eqvA_ints xs ys, List.cons.injEq]
  by_cases e : x = y <;> simp [e]
theorem eqv_I (xs ys : List Int) : PyData.eqv (dI xs) (dI ys) = decide (xs = ys) := by
 unfold dI
 rw [PyData.eqv, eqvA_ints]
theorem eqvA_lists : ∀ xs ys : List (List Int), PyData.eqvAll (xs.map dI) (ys.map dI) = decide (xs = ys)
 | [], [] => by simp [PyData.eqvAll]
 | [], y :: ys => by simp [PyData.eqvAll]
 | x :: xs, [] => by simp [PyData.eqvAll]
 | x :: xs, y :: ys => by
  simp only [List.map_cons, PyData.eqvAll, eqv_I, eqvA_lists xs ys, List.cons.injEq]
  by_cases e : x = y <;> simp [e]
theorem eqv_L (xs ys : List (List Int)) : PyData.eqv (dL xs) (dL ys) = decide (xs = ys) := by
 unfold dL
 rw [PyData.eqv, eqvA_lists]
theorem eqvA_strs : ∀ xs ys : List (List Nat), PyData.eqvAll (xs.map fun l => .str (mkS l)) (ys.map fun l => .str (mkS l)) = decide (xs = ys)
 | [], [] => by simp [PyData.eqvAll]
 | [], y :: ys => by simp [PyData.eqvAll]
 | x :: xs, [] => by simp [PyData.eqvAll]
 | x :: xs, y :: ys => by
  simp only [List.map_cons, PyData.eqvAll, PyData.eqv, mkS_beq, eqvA_strs xs ys, List.cons.injEq]
  by_cases e : x = y <;> simp [e]
theorem eqv_S (xs ys : List (List Nat)) : PyData.eqv (dS xs) (dS ys) = decide (xs = ys) := by
 unfold dS
 rw [PyData.eqv, eqvA_strs]
section
variable {prog : Program} {w : World} {A : Around} {E : Value → Shared → Prop} {s : Shared} {h₀ : Heap} {L : Addr} {news : Ledger} {Q : Value → Shared → Prop} {l l' : Addr} {vs vs' : List Value} {ep ep' : Nat}
theorem eq_intsK {xs ys : List Int} (N : News h₀ L s.heap news) (hm : (l, listOf vs.toArray ep) ∈ news) (hi : IntsAre vs xs) (hm' : (l', listOf vs'.toArray ep') ∈ news) (hi' : IntsAre vs' ys) (hu : A.units + 64 < cLine) (h : Q (.bool (decide (xs = ys))) s) :
  wpAny (model prog w) A (compareOp .Eq (.ref l) (.ref l')) Q E s :=
 compareEq_shaped (reads_ints N hm hi) (reads_ints N hm' hi') (shaped_I _) (shaped_I _) hu (by rw [eqv_I]; exact h)
theorem ne_intsK {xs ys : List Int} (N : News h₀ L s.heap news) (hm : (l, listOf vs.toArray ep) ∈ news) (hi : IntsAre vs xs) (hm' : (l', listOf vs'.toArray ep') ∈ news) (hi' : IntsAre vs' ys) (hu : A.units + 64 < cLine) (h : Q (.bool (!decide (xs = ys))) s) :
  wpAny (model prog w) A (compareOp .NotEq (.ref l) (.ref l')) Q E s :=
 compareNe_shaped (reads_ints N hm hi) (reads_ints N hm' hi') (shaped_I _) (shaped_I _) hu (by rw [eqv_I]; exact h)
theorem ne_strsK {xs ys : List (List Nat)} (N : News h₀ L s.heap news) (hm : (l, listOf vs.toArray ep) ∈ news) (hi : StrsAre vs (xs.map mkS)) (hm' : (l', listOf vs'.toArray ep') ∈ news) (hi' : StrsAre vs' (ys.map mkS)) (hx : ∀ l ∈ xs, ∀ c ∈ l, c < 256) (hy : ∀ l ∈ ys, ∀ c ∈ l, c < 256) (hu : A.units + 64 < cLine) (h : Q (.bool (!decide (xs = ys))) s) :
  wpAny (model prog w) A (compareOp .NotEq (.ref l) (.ref l')) Q E s :=
 compareNe_shaped (reads_strs N hm hi) (reads_strs N hm' hi') (shaped_S hx) (shaped_S hy) hu (by rw [eqv_S]; exact h)
theorem eq_listsK {xs ys : List (List Int)} (N : News h₀ L s.heap news) (hm : (l, listOf vs.toArray ep) ∈ news) (hi : Lists news vs xs) (hm' : (l', listOf vs'.toArray ep') ∈ news) (hi' : Lists news vs' ys) (hu : A.units + 64 < cLine) (h : Q (.bool (decide (xs = ys))) s) :
  wpAny (model prog w) A (compareOp .Eq (.ref l) (.ref l')) Q E s := by
 refine ex1 (reads_lists N hm hi) fun as r => ?_
 refine ex1 (reads_lists N hm' hi') fun bs r' => ?_
 exact compareEq_shaped r r' (shaped_L _) (shaped_L _) hu (by rw [eqv_L]; exact h)
end
end
section
theorem doneD_cons (np : Int → Int) (rs : List Int) (j : Int) (ss : List Int) : doneD np rs (j :: ss) = doneD (fun i => if i = j then np j - 1 else np i) (if np j - 1 = 0 then rs ++ [j] else rs) ss := rfl
theorem doneD_is : ∀ (ss : List Int) (np : Int → Int) (rs : List Int), (∀ j ∈ ss, (ss.count j : Int) ≤ np j) →
  (∀ j, (doneD np rs ss).1 j = np j - (ss.count j : Int)) ∧ ∃ l, (doneD np rs ss).2 = rs ++ l ∧ l.Nodup ∧ ∀ j, j ∈ l ↔ j ∈ ss ∧ np j - (ss.count j : Int) = 0
 | [], np, rs, _ => ⟨fun j => by simp [doneD], [], by simp [doneD], List.nodup_nil, by simp⟩
 | x :: ss, np, rs, h => by
  have hx := h x (.head _)
  rw [List.count_cons_self] at hx
  have h' : ∀ j ∈ ss, (ss.count j : Int) ≤ (fun i => if i = x then np x - 1 else np i) j := by
   intro j hj
   have := h j (.tail _ hj)
   by_cases e : j = x
   ·subst e; simp only [if_true]; rw [List.count_cons_self] at this; omega
   ·simp only [if_neg e]; rw [List.count_cons_of_ne (fun q => e q.symm)] at this; exact this
  refine oAEAA (doneD_is ss _ (if np x - 1 = 0 then rs ++ [x] else rs) h') fun a l b nd c => ?_
  rw [doneD_cons]
  refine ⟨fun j => ?_, ?_⟩
  ·rw [a j]
   by_cases e : j = x
   ·subst e; rw [List.count_cons_self, if_pos rfl]; omega
   ·rw [List.count_cons_of_ne (fun q => e q.symm), if_neg e]
  ·by_cases e : np x - 1 = 0
   ·rw [if_pos e] at b
    have hc : ss.count x = 0 := by omega
    have hns : x ∉ ss := List.count_eq_zero.mp hc
    refine ⟨x :: l, by rw [if_pos e, b, List.append_assoc]; rfl, List.nodup_cons.mpr ⟨fun hl => hns ((c x).mp hl).1, nd⟩, fun j => ?_⟩
    rw [List.mem_cons, List.mem_cons, c j]
    by_cases ej : j = x
    ·subst ej; rw [List.count_cons_self, hc]; simp [hns]; omega
    ·rw [List.count_cons_of_ne (fun q => ej q.symm), if_neg ej]; simp [ej]
   ·rw [if_neg e] at b
    refine ⟨l, by rw [if_neg e]; exact b, nd, fun j => ?_⟩
    rw [List.mem_cons, c j]
    by_cases ej : j = x
    ·subst ej
     rw [List.count_cons_self, if_pos rfl]
     constructor
     ·rintro ⟨_, q⟩; exact ⟨.inl rfl, by omega⟩
     ·rintro ⟨_, q⟩
      refine ⟨?_, by omega⟩
      apply Classical.byContradiction
      intro hn
      rw [List.count_eq_zero.mpr hn] at q
      omega
    ·rw [List.count_cons_of_ne (fun q => ej q.symm), if_neg ej]; simp [ej]
theorem filter_less (U : List Int) (k : Int) (hk : k ∈ U) : ∀ l : List Int, (l.filter fun i => decide (i ∈ U)).length = (l.filter fun i => decide (i ∈ U.filter fun j => decide (j ≠ k))).length + l.count k
 | [] => rfl
 | x :: l => by
  have ih := filter_less U k hk l
  by_cases e : x = k
  ·subst e
   rw [List.count_cons_self, List.filter_cons, if_pos (decide_eq_true hk), List.filter_cons, if_neg (by simp), List.length_cons]
   omega
  ·rw [List.count_cons_of_ne e]
   by_cases hx : x ∈ U
   ·rw [List.filter_cons, if_pos (decide_eq_true hx), List.filter_cons, if_pos (by simp [hx, e]), List.length_cons, List.length_cons]
    omega
   ·rw [List.filter_cons, if_neg (by simp [hx]), List.filter_cons, if_neg (by simp [hx])]
    exact ih
structure KH (need : Int → List Int) (Lt : List Int) (np : Int → Int) (rs : List Int) : Prop where
 left : ∀ j ∈ Lt, np j = ((need j).filter fun i => decide (i ∈ Lt)).length
 perm : rs.Perm (freeF need Lt)
structure KS (need : Int → List Int) (Lt U : List Int) (np : Int → Int) (q : List Int) : Prop where
 free : ∀ j ∈ freeF need Lt, j ∈ U → np j = -1
 wait : ∀ j ∈ Lt, j ∉ freeF need Lt → np j = ((need j).filter fun i => decide (i ∈ U)).length
 nodup : q.Nodup
 mem : ∀ j, j ∈ q ↔ j ∈ Lt ∧ j ∉ freeF need Lt ∧ np j = 0
theorem KH.start {need : Int → List Int} {Lt : List Int} {np : Int → Int} {rs : List Int} (H : KH need Lt np rs) : KS need Lt Lt (fun j => if j ∈ rs then -1 else np j) [] := by
 have hm : ∀ j, j ∈ rs ↔ j ∈ freeF need Lt := fun j => H.perm.mem_iff
 refine ⟨fun j hj _ => if_pos ((hm j).mpr hj), fun j hj hf => ?_, List.nodup_nil, fun j => ⟨(fun h => by cases h), ?_⟩⟩
 ·rw [if_neg (fun q => hf ((hm j).mp q))]; exact H.left j hj
 ·rintro ⟨h1, h2, h3⟩
  rw [if_neg (fun q => h2 ((hm j).mp q)), H.left j h1] at h3
  exfalso
  apply h2
  unfold freeF
  refine List.mem_filter.mpr ⟨h1, ?_⟩
  rw [List.isEmpty_iff_length_eq_zero]
  omega
theorem KS.step {need : Int → List Int} {Lt U : List Int} {np : Int → Int} {q : List Int} (K : KS need Lt U np q) {k : Int} (hkF : k ∈ freeF need Lt) (hkU : k ∈ U) {ss : List Int}
  (hs : ∀ j ∈ ss, j ∈ Lt ∧ j ∉ freeF need Lt) (hc : ∀ j ∈ Lt, ss.count j = (need j).count k) :
  KS need Lt (U.filter fun j => decide (j ≠ k)) (doneD (fun j => if j = k then -2 else np j) q ss).1 (doneD (fun j => if j = k then -2 else np j) q ss).2 := by
 have nk : ∀ j, j ∉ freeF need Lt → j ≠ k := fun j h e => h (e ▸ hkF)
 have key : ∀ j ∈ Lt, j ∉ freeF need Lt → np j = ((need j).filter fun i => decide (i ∈ U.filter fun j => decide (j ≠ k))).length + ((need j).count k : Int) := by
  intro j hj hf
  rw [K.wait j hj hf, filter_less U k hkU (need j)]
  omega
 obtain ⟨a, l, b, nd, c⟩ := doneD_is ss (fun j => if j = k then -2 else np j) q (by
  intro j hj
  refine an1 (hs j hj) fun h1 h2 => ?_
  simp only [if_neg (nk j h2)]
  rw [hc j h1, key j h1 h2]
  omega)
 refine ⟨fun j hj hU => ?_, fun j hj hf => ?_, ?_, fun j => ?_⟩
 ·have hne : j ≠ k := by simpa using (List.mem_filter.mp hU).2
  have h0 : ss.count j = 0 := List.count_eq_zero.mpr fun q => (hs j q).2 hj
  rw [a j, h0]
  simp only [if_neg hne]
  rw [K.free j hj (List.mem_filter.mp hU).1]
  rfl
 ·rw [a j]
  simp only [if_neg (nk j hf)]
  rw [hc j hj, key j hj hf]
  omega
 ·rw [b]
  refine List.nodup_append.mpr ⟨K.nodup, nd, fun x hx y hy e => ?_⟩
  subst e
  refine an1 ((c x).mp hy) fun h1 h2 => ?_
  refine an1 (hs x h1) fun h3 h4 => ?_
  have h5 := ((K.mem x).mp hx).2.2
  simp only [if_neg (nk x h4)] at h2
  have h6 : 0 < ss.count x := List.count_pos_iff.mpr h1
  omega
 ·rw [b, List.mem_append, K.mem j, c j]
  constructor
  ·rintro (⟨h1, h2, h3⟩ | ⟨h1, h2⟩)
   ·refine ⟨h1, h2, ?_⟩
    rw [a j]
    simp only [if_neg (nk j h2)]
    have := key j h1 h2
    rw [hc j h1]
    omega
   ·refine an1 (hs j h1) fun h3 h4 => ?_
    exact ⟨h3, h4, by rw [a j]; exact h2⟩
  ·rintro ⟨h1, h2, h3⟩
   rw [a j] at h3
   by_cases hj : j ∈ ss
   ·exact .inr ⟨hj, h3⟩
   ·rw [List.count_eq_zero.mpr hj] at h3
    simp only [if_neg (nk j h2)] at h3
    exact .inl ⟨h1, h2, by omega⟩
noncomputable def undone (Lt rs : List Int) (i : Nat) : List Int := Lt.filter fun j => decide (j ∉ rs.take i)
theorem undone_zero (Lt rs : List Int) : undone Lt rs 0 = Lt := by
 unfold undone
 exact List.filter_eq_self.mpr fun k _ => by simp
theorem undone_succ {Lt rs : List Int} {i : Nat} {k : Int} (h : rs[i]? = some k) : undone Lt rs (i + 1) = (undone Lt rs i).filter fun j => decide (j ≠ k) := by
 unfold undone
 rw [List.filter_filter]
 apply List.filter_congr
 intro j _
 rw [List.take_add_one, h]
 simp [Bool.and_comm, not_or]
theorem undone_end {need : Int → List Int} {Lt rs : List Int} (h : rs.Perm (freeF need Lt)) : undone Lt rs rs.length = restF need Lt := by
 unfold undone restF
 rw [List.take_length]
 apply List.filter_congr
 intro j _
 simp only [h.mem_iff]
theorem undone_mem {Lt rs : List Int} {i : Nat} {k : Int} (hn : rs.Nodup) (h : rs[i]? = some k) (hk : k ∈ Lt) : k ∈ undone Lt rs i := by
 unfold undone
 refine List.mem_filter.mpr ⟨hk, decide_eq_true fun hm => ?_⟩
 obtain ⟨j, hj, e⟩ := List.mem_take_iff_getElem.mp hm
 obtain ⟨hi, e'⟩ := List.getElem?_eq_some_iff.mp h
 have := (List.getElem_inj hn).mp (e.trans e'.symm)
 omega
theorem rng_nodup (n : Nat) : (rng n).Nodup := by
 unfold rng
 refine List.Pairwise.map _ (fun a b h => ?_) List.nodup_range
 intro e
 exact h (Int.ofNat.inj e)
theorem left_nodup (need : Int → List Int) (n : Nat) : ∀ t, (leftI need n t).Nodup
 | 0 => rng_nodup n
 | t + 1 => (left_nodup need n t).filter _
theorem KS.finish {need : Int → List Int} {Lt : List Int} {np : Int → Int} {q : List Int} (hn : Lt.Nodup) (K : KS need Lt (restF need Lt) np q) : KH need (restF need Lt) np q := by
 have hr : ∀ j, j ∈ restF need Lt ↔ j ∈ Lt ∧ j ∉ freeF need Lt := fun j => by unfold restF; rw [List.mem_filter, decide_eq_true_eq]
 refine ⟨fun j hj => K.wait j ((hr j).mp hj).1 ((hr j).mp hj).2, (List.perm_ext_iff_of_nodup K.nodup ((hn.filter _).filter _)).mpr fun j => ?_⟩
 have hfr : j ∈ freeF need (restF need Lt) ↔ j ∈ restF need Lt ∧ ((need j).filter fun i => decide (i ∈ restF need Lt)).length = 0 := by
  conv => lhs; unfold freeF
  rw [List.mem_filter, List.isEmpty_iff_length_eq_zero]
 show j ∈ q ↔ j ∈ freeF need (restF need Lt)
 rw [K.mem j, hfr, hr j]
 constructor
 ·rintro ⟨h1, h2, h3⟩
  rw [K.wait j h1 h2] at h3
  exact ⟨⟨h1, h2⟩, by omega⟩
 ·rintro ⟨⟨h1, h2⟩, h3⟩
  refine ⟨h1, h2, ?_⟩
  rw [K.wait j h1 h2]
  omega
theorem left_closed {need : Int → List Int} {n : Nat} : ∀ t, ∀ j ∈ rng n, j ∉ leftI need n t → ∀ i ∈ need j, i ∉ leftI need n t
 | 0, j, hj, hn, _, _ => absurd hj hn
 | t + 1, j, hj, hn, i, hi => by
  have hsub : i ∈ leftI need n (t + 1) → i ∈ leftI need n t := fun h => (mem_rest.mp h).1
  by_cases h : j ∈ leftI need n t
  ·have : j ∈ freeF need (leftI need n t) := by
    apply Classical.byContradiction
    intro q
    exact hn (List.mem_filter.mpr ⟨h, decide_eq_true q⟩)
   exact fun q => (mem_free.mp this).2 i hi (hsub q)
  ·exact fun q => left_closed t j hj h i hi (hsub q)
theorem succ_wait {need : Int → List Int} {n t : Nat} {k : Int} {ss : List Int} (hk : k ∈ leftI need n t) (hm : ∀ j ∈ ss, j ∈ rng n ∧ k ∈ need j) : ∀ j ∈ ss, j ∈ leftI need n t ∧ j ∉ freeF need (leftI need n t) := by
 intro j hj
 refine an1 (hm j hj) fun h1 h2 => ?_
 refine ⟨?_, fun h => (mem_free.mp h).2 k h2 hk⟩
 apply Classical.byContradiction
 intro q
 exact left_closed t j h1 q k h2 hk
theorem mem_succAt {need : Int → List Int} {n : Nat} {k j : Int} : j ∈ succAt need n k ↔ j ∈ rng n ∧ k ∈ need j := by
 unfold succAt
 rw [List.mem_flatMap]
 constructor
 ·rintro ⟨x, hx, h⟩
  refine an1 (List.mem_replicate.mp h) fun h1 h2 => ?_
  subst h2
  exact ⟨hx, List.count_pos_iff.mp (Nat.pos_of_ne_zero h1)⟩
 ·rintro ⟨h1, h2⟩
  exact ⟨j, h1, List.mem_replicate.mpr ⟨Nat.ne_of_gt (List.count_pos_iff.mpr h2), rfl⟩⟩
theorem count_flat (need : Int → List Int) (k j : Int) : ∀ l : List Int, (l.flatMap fun x => List.replicate ((need x).count k) x).count j = l.count j * (need j).count k
 | [] => by simp
 | x :: l => by
  rw [List.flatMap_cons, List.count_append, count_flat need k j l]
  by_cases e : x = j
  ·subst e
   rw [List.count_replicate_self, List.count_cons_self, Nat.succ_mul]; omega
  ·rw [List.count_cons_of_ne e, List.count_replicate, if_neg (by simpa using e), Nat.zero_add]
theorem count_succAt {need : Int → List Int} {n : Nat} {k j : Int} (hj : j ∈ rng n) : (succAt need n k).count j = (need j).count k := by
 unfold succAt
 rw [count_flat, (rng_nodup n).count, if_pos hj, Nat.one_mul]
theorem KH.init {need : Int → List Int} {n : Nat} {keys : List Int} (hk : keys.Nodup) (hm : ∀ k, k ∈ keys ↔ k ∈ rng n) (hn : ∀ k ∈ rng n, ∀ j ∈ need k, j ∈ rng n) : KH need (leftI need n 0) (npAt need n) (keys.filter fun k => decide (npAt need n k = 0)) := by
 have e : ∀ j ∈ rng n, npAt need n j = ((need j).filter fun i => decide (i ∈ leftI need n 0)).length := by
  intro j hj
  unfold npAt
  rw [if_pos hj, List.filter_eq_self.mpr fun i hi => decide_eq_true (show i ∈ leftI need n 0 from hn j hj i hi)]
 refine ⟨e, (List.perm_ext_iff_of_nodup (hk.filter _) ((rng_nodup n).filter _)).mpr fun j => ?_⟩
 rw [List.mem_filter, List.mem_filter, hm j, decide_eq_true_eq, List.isEmpty_iff_length_eq_zero]
 constructor
 ·rintro ⟨h1, h2⟩
  rw [e j h1] at h2
  exact ⟨h1, by have h3 : ((((need j).filter fun i => decide (i ∈ leftI need n 0)).length : Nat) : Int) = 0 := h2; exact Int.ofNat.inj h3⟩
 ·rintro ⟨h1, h2⟩
  rw [e j h1]
  exact ⟨h1, by have h3 : ((need j).filter fun i => decide (i ∈ leftI need n 0)).length = 0 := h2; rw [h3]; rfl⟩
theorem due_next {need : Int → List Int} {n t : Nat} (h : freeF need (leftI need n t) ≠ []) : dueI need n (t + 1) = dueI need n t ++ [freeF need (leftI need n t)] := by
 show (if _ then _ else _) = _
 rw [if_neg h]
theorem due_stays {need : Int → List Int} {n t : Nat} (h : freeF need (leftI need n t) = []) : ∀ d, leftI need n (t + d) = leftI need n t ∧ dueI need n (t + d) = dueI need n t
 | 0 => ⟨rfl, rfl⟩
 | d + 1 => by
  refine an1 (due_stays h d) fun a b => ?_
  have h' : freeF need (leftI need n (t + d)) = [] := by rw [a]; exact h
  refine ⟨?_, ?_⟩
  ·show restF need (leftI need n (t + d)) = _
   rw [rest_same h', a]
  ·show (if freeF need (leftI need n (t + d)) = [] then dueI need n (t + d) else _) = _
   rw [if_pos h', b]
theorem due_end {need : Int → List Int} {n t : Nat} (h : freeF need (leftI need n t) = []) (ht : t ≤ n) : dueI need n n = dueI need n t := by
 have := (due_stays h (n - t)).2
 rwa [Nat.add_sub_cancel' ht] at this
theorem left_step {need : Int → List Int} {n t : Nat} (h : freeF need (leftI need n t) ≠ []) (hl : (leftI need n t).length + t ≤ n) : (leftI need n (t + 1)).length + (t + 1) ≤ n := by
 have := rest_len h
 show (restF need _).length + (t + 1) ≤ n
 omega
end
section
open PySem PySem.W PyProof.Rows PySem.Calls PySem.Spec
noncomputable def freeP (need : Int → List Int) (left : List Int) (k : Int) : Bool := ((need k).filter fun j => decide (j ∈ left)).isEmpty
theorem leftI_len (need : Int → List Int) (n : Nat) : ∀ t, (leftI need n t).length ≤ n
 | 0 => by show (rng n).length ≤ n; unfold rng; simp
 | t + 1 => Nat.le_trans (List.length_filter_le ..) (leftI_len need n t)
theorem needF_len (cs : List Int) (tot : Int) (n : Nat) (k : Int) : (needF cs tot n k).length ≤ 2 := by
 unfold needF
 exact Nat.le_trans (List.length_filter_le ..) (Nat.le_refl 2)
theorem LF.cons3 {R : Ledger} {L : Addr} {c : Nat → Option Value} {rest : Ledger} (C : LF R L c rest) {I1 C1 D1 : Addr} {oI oC oD : Obj} (off : LCg.Off3 I1 C1 D1 R) (hne : ((@Ne Nat I1 C1) ∧ (@Ne Nat I1 D1) ∧ (@Ne Nat C1 D1))) : LF ((I1, oI) :: (C1, oC) :: (D1, oD) :: R) L c ((I1, oI) :: (C1, oC) :: (D1, oD) :: rest) := by
 refine ((C.cons fun p hp => (off.mem p hp).2.2).cons fun p hp => ?_).cons fun p hp => ?_
 ·rcases List.mem_cons.mp hp with rfl | hp
  ·exact Ne.symm hne.2.2
  ·exact (off.mem p hp).2.1
 ·rcases List.mem_cons.mp hp with rfl | hp
  ·exact Ne.symm hne.1
  ·rcases List.mem_cons.mp hp with rfl | hp
   ·exact Ne.symm hne.2.1
   ·exact (off.mem p hp).1
theorem take_pos {p : Int → Bool} {xs : List Int} {i : Nat} {j : Int} (h : xs[i]? = some j) (hp : p j = true) : (xs.take (i + 1)).filter p = (xs.take i).filter p ++ [j] := by
 rw [List.take_add_one, h, Option.toList_some, List.filter_append, List.filter_cons, if_pos hp, List.filter_nil]
theorem take_neg {p : Int → Bool} {xs : List Int} {i : Nat} {j : Int} (h : xs[i]? = some j) (hp : p j = false) : (xs.take (i + 1)).filter p = (xs.take i).filter p := by
 rw [List.take_add_one, h, Option.toList_some, List.filter_append, List.filter_cons, if_neg (by rw [hp]; exact Bool.false_ne_true), List.filter_nil, List.append_nil]
section
variable {M : Model} {A : Around} {E : Value → Shared → Prop} {s : Shared} {h₀ : Heap} {L : Addr} {m : FMap} {news : Ledger}
theorem newListK {vs : List Value} {Q : Value → Shared → Prop} (F : Fr h₀ L s.heap m) (N : News h₀ L s.heap news) (hz : vs.length ≤ 1000)
  (h : ∀ D h', Fr h₀ L h' m → News h₀ L h' ((D, listOf vs.toArray 0) :: news) → (∀ p ∈ news, p.1 < D) → Q (.ref D) { s with heap := h' }) : wpAny M A (newList vs) Q E s :=
 wpAny_newObj_type (h _ _ (F.push _) (News.push F N _ rfl) (fun p hp => Heap.lt_size (N p hp).1)) (by size_fits)
end
theorem due_same {need : Int → List Int} {n t : Nat} (h : freeF need (leftI need n t) = []) : dueI need n (t + 1) = dueI need n t := by
 show (if _ then _ else _) = _
 rw [if_pos h]
theorem lawUnits {env : Env} : (callerA.deeper env).units + 64 < cLine := by
 have := cLine_is
 simp only [units_deeper, units_caller]
 omega
end
section
open PySem PySem.W PyProof.Rows PySem.Calls
variable {w : World} {mean : ExcName → Option Value} {mg mb : Str → Option Value} {dp un : Nat} {gd : Option (List Code)} {cn : Str} {cs : Scope} {a : Addr} {ccd : Value} {cl : List (Str × Addr)} {outer : List Env} {A₀ : Around} {base h₀ : Heap} {L : Addr} {m : Str → Option Value} {news : List (Addr × Obj)} {s : Shared} {Q E : Value → Shared → Prop}
structure AfterS3 (w : World) (L : Addr) (cs : List Int) (tot : Int) (n : Nat) (D Do Dn Dd : Addr) (vs yo yn : List Value) (ep eo en : Nat) (m : FMap) (nw : Ledger) (c : Nat → Option Value) (tt tn tb : Tok) (rs : Ledger) (od : Obj) (la : Int → Addr) : Prop where
 lf : LF nw L c rs
 c0 : CV c 0 (.ref D)
 c1 : CV c 1 (.int tot tt)
 c2 : CV c 2 (.int (n : Nat) tn)
 c4 : CV c 4 (.ref Dd)
 k1 : Has m (Str.ofString "old") (.ref Do)
 k2 : Has m (Str.ofString "new") (.ref Dn)
 k3 : Has m (Str.ofString "bound") (.int (4 + tot) tb)
 r1 : (D, listOf vs.toArray ep) ∈ rs
 r2 : (Do, listOf yo.toArray eo) ∈ rs
 r3 : (Dn, listOf yn.toArray en) ∈ rs
 r4 : (Dd, od) ∈ rs
 dict : od.IsDictOf (intKind prg w) ((rng n).map fun k => (k, Value.ref (la k)))
 lists : ∀ k ∈ rng n, ∃ us es, (la k, listOf (List.toArray us) es) ∈ rs ∧ IntsAre us (needF cs tot n k)
structure InS4 (w : World) (L : Addr) (cs : List Int) (tot : Int) (n : Nat) (D Do Dn Dd : Addr) (vs yo yn : List Value) (ep eo en : Nat) (od : Obj) (la : Int → Addr) (i : Nat) (m : FMap) (nw : Ledger) (c : Nat → Option Value) (tt tn tb : Tok) (rs : Ledger) (Dl Du : Addr) (vl vd : List Value) (el ed : Nat) : Prop where
 lf : LF nw L c ((Du, listOf vd.toArray ed) :: rs)
 du : ∀ p ∈ rs, p.1 ≠ Du
 old : AfterS3 w L cs tot n D Do Dn Dd vs yo yn ep eo en m nw c tt tn tb rs od la
 c5 : CV c 5 (.ref Dl)
 k4 : Has m (Str.ofString "due") (.ref Du)
 left : (Dl, listOf vl.toArray el) ∈ rs
 lv : IntsAre vl (leftI (needF cs tot n) n i)
 due : Lists rs vd (dueI (needF cs tot n) n i)
theorem law_S4 {w : World} {mean : ExcName → Option Value} {mg mb : Str → Option Value} {h₀ : Heap} {L fa w7 : Addr} {s : Shared} {m : FMap} {nw : Ledger} {qk : Flow → Shared → Prop} {cs : List Int} {tot : Int} {n : Nat} {D Do Dn Dd : Addr} {vs yo yn : List Value} {ep eo en : Nat} {c : Nat → Option Value} {tt tn tb : Tok} {rs : Ledger} {od : Obj} {la : Int → Addr}
  (X0 : (Mine.hd.heap_39 w.params).In h₀) (T0 : Top vw loose0 mean mg mb h₀) (B0 : Below callerA h₀ [] h₀) (hn : n ≤ 6) (F : Fr h₀ L s.heap m) (N : News h₀ L s.heap nw)
  (P : AfterS3 w L cs tot n D Do Dn Dd vs yo yn ep eo en m nw c tt tn tb rs od la)
  (hret : ∀ m nw c tt tn tb rs Dl Du vl vd el ed h' tk', Fr h₀ L h' m → News h₀ L h' nw → InS4 w L cs tot n D Do Dn Dd vs yo yn ep eo en od la n m nw c tt tn tb rs Dl Du vl vd el ed → wpAny (model PySem.Challenge.rw_ny0310_01.row.prog w) (callerA.deeper (lawE L fa w7)) (execs (lawB 12) (lawE L fa w7)) qk NoE { s with heap := h', toks := tk' }) :
  wpAny (model PySem.Challenge.rw_ny0310_01.row.prog w) (callerA.deeper (lawE L fa w7)) (execs (lawB 9) (lawE L fa w7)) qk NoE s := by
 conv in (lawB 9) => unfold lawB; whnf
 unfold lawE
 simp only [show lawS = _ from by conv => lhs; whnf]
 obtain ⟨C2, c0, c1, c2, c4, k1, k2, k3, r1, r2, r3, r4, hdd, hla⟩ := P
 have st3 : Stopper3 := trivial
 first | ((with_reducible refine execs_cons_gen ?_); intro _; (try dsimp only)) | walk1
 repeat' first | (k_unfold; (try dsimp only)) | ((fail_if_success (with_reducible first | refine WG ?_ | refine FG ?_)); (fail_if_success first | (with_reducible show wpAny _ _ (compareOp _ _ (Value.ref _)) _ _ _) | (with_reducible show wpAny _ _ (setItem (Value.ref _) (Value.int _ _) _) _ _ _) | (with_reducible show wpAny _ _ (getItem (Value.ref _) (Value.int _ _)) _ _ _) | ((have _ := (by with_reducible assumption : Stopper3)); (with_reducible show wpAny _ _ (execs _ _) _ _ _)) | (with_reducible show LCg.CompSrc _ _ _ _ _ _ _ _ _ _ _ _ _ _) | (with_reducible show LCt.CompSrcT _ _ _ _ _ _ _ _ _ _ _ _ _ _ _)); first | ((with_reducible show wpAny _ _ (newList _) _ _ _); k_dflt refine' newList_LF (by with_reducible assumption) (by k_asm) (by k_asm) (by first | decide | (simp only [List.length_cons, List.length_nil]; omega)) ?_; intro _ _ _ _ _ _ _; (try dsimp only)) | walk1 | (dsimp only; walk1))
 rename_i Du _ nwu Cu lu _ Fu Nu
 have hDu : ∀ p ∈ rs, p.1 ≠ Du := fun p hp => Nat.ne_of_lt (lu p (C2.rst p hp).1)
 clear C2
 first | ((with_reducible refine execs_cons_gen ?_); intro _; (try dsimp only)) | walk1
 repeat' first | (k_unfold; (try dsimp only)) | ((fail_if_success (with_reducible first | refine WG ?_ | refine FG ?_)); (fail_if_success first | (with_reducible show wpAny _ _ (compareOp _ _ (Value.ref _)) _ _ _) | (with_reducible show wpAny _ _ (setItem (Value.ref _) (Value.int _ _) _) _ _ _) | (with_reducible show wpAny _ _ (getItem (Value.ref _) (Value.int _ _)) _ _ _) | ((have _ := (by with_reducible assumption : Stopper3)); (with_reducible show wpAny _ _ (execs _ _) _ _ _)) | (with_reducible show LCg.CompSrc _ _ _ _ _ _ _ _ _ _ _ _ _ _) | (with_reducible show LCt.CompSrcT _ _ _ _ _ _ _ _ _ _ _ _ _ _ _)); first | ((with_reducible show wpAny _ _ (eval (Expr.Name _ _) (envOfC _ _ _ _ _)) _ _ _); k_dflt refine' rdF (by rfl) (by rfl) (by rfl) (by with_reducible assumption) (by k_asm) (by rfl) (by first | exact rfl | exact CV.get (by with_reducible assumption) (by exact rfl)) ?_) | walk1 | (dsimp only; walk1))
 (with_reducible rename Fr _ _ _ _ => kF); (with_reducible rename News _ _ _ _ => kN)
 (with_reducible rename IntsAre _ _ => hvl)
 rw [rangeKs_rng] at hvl
 rename_i Dl vl el _ _ hl1
 have C4 := Cu.cons (o := listOf vl.toArray el) (fun p hp => Nat.ne_of_lt (hl1 p hp))
 have hDl : Dl ≠ Du := Ne.symm (Nat.ne_of_lt (hl1 _ (Cu.rst _ (.head _)).1))
 repeat' first | (k_unfold; (try dsimp only)) | ((fail_if_success (with_reducible first | refine WG ?_ | refine FG ?_)); (fail_if_success first | (with_reducible show wpAny _ _ (compareOp _ _ (Value.ref _)) _ _ _) | (with_reducible show wpAny _ _ (setItem (Value.ref _) (Value.int _ _) _) _ _ _) | (with_reducible show wpAny _ _ (getItem (Value.ref _) (Value.int _ _)) _ _ _) | ((have _ := (by with_reducible assumption : Stopper3)); (with_reducible show wpAny _ _ (execs _ _) _ _ _)) | (with_reducible show LCg.CompSrc _ _ _ _ _ _ _ _ _ _ _ _ _ _) | (with_reducible show LCt.CompSrcT _ _ _ _ _ _ _ _ _ _ _ _ _ _ _)); first | ((with_reducible show wpAny _ _ (storeName (envOfC _ _ _ _ _) _ _) _ _ _); k_dflt refine' stF (by rfl) (by rfl) (by rfl) (by with_reducible assumption) (by k_asm) (by k_asm) (by rfl) ?_; intro _ _ _ _ _; (try dsimp only)) | walk1 | (dsimp only; walk1))
 (with_reducible rename Fr _ _ _ _ => kF); (with_reducible rename News _ _ _ _ => kN)
 (with_reducible rename LF _ _ _ _ => C5)
 refine execs_cut (fun m₂ nw => ∃ (c : Nat → Option Value) (tt tn tb : Tok) (rs : Ledger) (Dl Du : Addr) (vl vd : List Value) (el ed : Nat), InS4 w L cs tot n D Do Dn Dd vs yo yn ep eo en od la 0 m₂ nw c tt tn tb rs Dl Du vl vd el ed) kF kN ⟨setC c 5 (.ref Dl), tt, tn, tb, (Dl, listOf vl.toArray el) :: rs, Dl, Du, vl, [], el, 0, ?_⟩ ?_
 ·have C6 := C5.sub (rest' := (Du, listOf (List.toArray []) 0) :: (Dl, listOf vl.toArray el) :: rs) (by
   intro p hp
   rcases List.mem_cons.mp hp with rfl | hp
   ·exact .tail _ (.head _)
   ·rcases List.mem_cons.mp hp with rfl | hp
    ·exact .head _
    ·exact .tail _ (.tail _ hp))
  refine ⟨C6, ?_, ⟨C6.sub fun p hp => .tail _ hp, ⟨c0.out⟩, ⟨c1.out⟩, ⟨c2.out⟩, ⟨c4.out⟩, ⟨k1.out⟩, ⟨k2.out⟩, ⟨k3.out⟩, .tail _ r1, .tail _ r2, .tail _ r3, .tail _ r4, hdd, fun k hk => ?_⟩, ⟨rfl⟩, ⟨rfl⟩, .head _, hvl, .nil⟩
  ·intro p hp
   rcases List.mem_cons.mp hp with rfl | hp
   ·exact hDl
   ·exact hDu p hp
  ·refine oEEA (hla k hk) fun us es hu hui => ?_
   exact ⟨us, es, .tail _ hu, hui⟩
 clear kF kN C5 C4 Cu c0 c1 c2 c4 k1 k2 k3 r1 r2 r3 r4 hdd hla hDu hDl hl1 hvl lu
 intro m₂ nw2 h₂ tk₂ kF kN hp
 refine ex11 (hp) fun c tt tn tb rs Dl Du vl vd el ed P0 => ?_
 try clear hp
 have C2 := P0.lf
 have c2 := P0.old.c2
 first | ((with_reducible refine execs_cons_gen ?_); intro _; (try dsimp only)) | walk1
 refine For_enter ?_
 repeat' first | (k_unfold; (try dsimp only)) | ((fail_if_success (with_reducible first | refine WG ?_ | refine FG ?_)); (fail_if_success first | (with_reducible show wpAny _ _ (compareOp _ _ (Value.ref _)) _ _ _) | (with_reducible show wpAny _ _ (setItem (Value.ref _) (Value.int _ _) _) _ _ _) | (with_reducible show wpAny _ _ (getItem (Value.ref _) (Value.int _ _)) _ _ _) | ((have _ := (by with_reducible assumption : Stopper3)); (with_reducible show wpAny _ _ (execs _ _) _ _ _)) | (with_reducible show LCg.CompSrc _ _ _ _ _ _ _ _ _ _ _ _ _ _) | (with_reducible show LCt.CompSrcT _ _ _ _ _ _ _ _ _ _ _ _ _ _ _)); first | ((with_reducible show wpAny _ _ (eval (Expr.Name _ _) (envOfC _ _ _ _ _)) _ _ _); k_dflt refine' rdF (by rfl) (by rfl) (by rfl) (by with_reducible assumption) (by k_asm) (by rfl) (by first | exact rfl | exact CV.get (by with_reducible assumption) (by exact rfl)) ?_) | walk1 | (dsimp only; walk1))
 (with_reducible rename Fr _ _ _ _ => kF); (with_reducible rename News _ _ _ _ => kN)
 (with_reducible rename IsRange _ _ _ _ _ _ _ _ => hr2)
 refine letX3_11_1eio (fun (i : Nat) m₂ nw => ∃ (c : Nat → Option Value) (tt tn tb : Tok) (rs : Ledger) (Dl Du : Addr) (vl vd : List Value) (el ed : Nat), InS4 w L cs tot n D Do Dn Dd vs yo yn ep eo en od la i m₂ nw c tt tn tb rs Dl Du vl vd el ed : Nat → FMap → Ledger → Prop) (fun _ _ _ => .rfl) fun J hJ hJi hJo => ?_
 refine ForAt_range (s := ⟨_, _, _, _, _⟩) (n := n) J (by rfl) hr2 rfl (by omega) kF kN ?_ ?_ ?_
 ·exact hJi _ _ _ _ _ _ _ _ _ _ _ _ _ _ (P0)
 ·clear P0 C2 c2 kF kN hr2
  intro i t m₁ nw h₁ tk₁ I' it hi hj hne F₁ N₁
  refine hJo _ _ _ hj _ fun c tt tn tb rs Dl Du vl vd el ed P => ?_
  clear hj
  replace F₁ : Fr h₀ L h₁ m₁ := F₁
  replace N₁ : News h₀ L h₁ ((I', it) :: nw) := N₁
  have C5 := P.lf.cons (o := it) hne
  have c5 := P.c5
  generalize hnw : (I', it) :: nw = nw5 at N₁ C5
  repeat' first | (k_unfold; (try dsimp only)) | ((fail_if_success (with_reducible first | refine WG ?_ | refine FG ?_)); (fail_if_success first | (with_reducible show wpAny _ _ (compareOp _ _ (Value.ref _)) _ _ _) | (with_reducible show wpAny _ _ (setItem (Value.ref _) (Value.int _ _) _) _ _ _) | (with_reducible show wpAny _ _ (getItem (Value.ref _) (Value.int _ _)) _ _ _) | ((have _ := (by with_reducible assumption : Stopper3)); (with_reducible show wpAny _ _ (execs _ _) _ _ _)) | (with_reducible show LCg.CompSrc _ _ _ _ _ _ _ _ _ _ _ _ _ _) | (with_reducible show LCt.CompSrcT _ _ _ _ _ _ _ _ _ _ _ _ _ _ _)); first | walk1 | (dsimp only; walk1))
  first | ((with_reducible refine execs_cons_gen ?_); intro _; (try dsimp only)) | walk1
  repeat' first | (k_unfold; (try dsimp only)) | ((fail_if_success (with_reducible first | refine WG ?_ | refine FG ?_)); (fail_if_success first | (with_reducible show wpAny _ _ (compareOp _ _ (Value.ref _)) _ _ _) | (with_reducible show wpAny _ _ (setItem (Value.ref _) (Value.int _ _) _) _ _ _) | (with_reducible show wpAny _ _ (getItem (Value.ref _) (Value.int _ _)) _ _ _) | ((have _ := (by with_reducible assumption : Stopper3)); (with_reducible show wpAny _ _ (execs _ _) _ _ _)) | (with_reducible show LCg.CompSrc _ _ _ _ _ _ _ _ _ _ _ _ _ _) | (with_reducible show LCt.CompSrcT _ _ _ _ _ _ _ _ _ _ _ _ _ _ _)); first | ((with_reducible show wpAny _ _ (exec (Stmt.Assign _ (Expr.ListComp _ _ _ _) _) _) _ _ _); k_dflt (refine' wpAny_Assign_Name ?_ (by with_unfolding_all rfl))) | ((with_reducible show wpAny _ _ (eval (Expr.Name _ _) (envOfC _ _ _ _ _)) _ _ _); k_dflt refine' rdF (by rfl) (by rfl) (by rfl) (by with_reducible assumption) (by k_asm) (by rfl) (by first | exact rfl | exact CV.get (by with_reducible assumption) (by exact rfl)) ?_) | ((with_reducible show wpAny _ _ (eval (Expr.ListComp _ _ _ _) _) _ _ _); k_dflt (refine' LCt.ListComp_T (by k_asm) (by with_unfolding_all rfl) (by decide) (by rfl) (by decide) (by rfl) ?_ (by intro _; rfl))) | walk1 | (dsimp only; walk1))
  (with_reducible rename Fr _ _ _ _ => kF); (with_reducible rename News _ _ _ _ => kN)
  have hml : (Dl, listOf vl.toArray el) ∈ nw5 := (C5.rst _ (.tail _ (.tail _ P.left))).1
  have hvl := P.lv
  have hvn : vl.length ≤ n := by rw [hvl.length]; exact leftI_len _ n i
  refine LCt.CompSrcT.ledger rfl kF kN hml (by rw [sizeLine_eq, List.size_toArray]; omega) ?_
  intro g9
  clear kF kN
  refine oEA (C5.cell 4 (by decide)) fun q4 hq4 hd4 => ?_
  refine oEA (C5.cell 5 (by decide)) fun q5 hq5 hd5 => ?_
  rw [P.old.c4.out] at hd4
  rw [c5.out] at hd5
  refine letX3_0_2io (fun i' ys nw' => nw' = nw5 ∧ IntsAre ys (((leftI (needF cs tot n) n i).take i').filter (freeP (needF cs tot n) (leftI (needF cs tot n) n i))) : Nat → List Value → Ledger → Prop) (fun _ _ _ => .rfl) fun J6 hJ6i hJ6o => ?_
  refine restT_inv J6 ?_ ?_ _ 0 [] _ (Nat.zero_add _) (by exact hJ6i _ _ _ (rfl) (.nil))
  ·intro i' ys nwA hi' hj v I1 oI C1 oC D1 m₃ h3 tk3 E3 hPv hNs hmx F3 N3 off hne'
   refine hJ6o _ _ _ hj _ fun ej1 hys => ?_
   clear hj
   subst ej1
   have hvi : vl[i']? = some v := by simpa using hPv
   refine oEEA (hvl.at i' v hvi) fun k tk er1 hk => ?_
   subst er1
   have hkn : k ∈ rng n := left_sub i k (List.mem_of_getElem? hk)
   refine oEEA (P.old.lists k hkn) fun us es hu hui => ?_
   have hul : us.length ≤ 2 := by rw [hui.length]; exact needF_len _ _ _ _
   have hval : valueAt ((rng n).map fun k => (k, Value.ref (la k))) k = some (.ref (la k)) := by rw [valueAt_map, if_pos hkn]
   have hdd := P.old.dict
   have C3 := C5.cons3 off hne' (oI := oI) (oC := oC) (oD := LCg.lst ys)
   have up : ∀ {p : Addr × Obj}, p ∈ rs → p ∈ (I1, oI) :: (C1, oC) :: (D1, LCg.lst ys) :: nwA := fun hp => .tail _ (.tail _ (.tail _ (C5.rst _ (.tail _ (.tail _ hp))).1))
   have hC3 : (C1, oC) ∈ (I1, oI) :: (C1, oC) :: (D1, LCg.lst ys) :: nwA := .tail _ (.head _)
   have hc4 : (L + 1 + 1 + 1 + 1 + 1, q4) ∈ (I1, oI) :: (C1, oC) :: (D1, LCg.lst ys) :: nwA := .tail _ (.tail _ (.tail _ hq4))
   have hc5 : (L + 1 + 1 + 1 + 1 + 1 + 1, q5) ∈ (I1, oI) :: (C1, oC) :: (D1, LCg.lst ys) :: nwA := .tail _ (.tail _ (.tail _ hq5))
   have hmu := up hu
   have hmd := up P.old.r4
   have hml3 := up P.left
   generalize hn3 : (I1, oI) :: (C1, oC) :: (D1, LCg.lst ys) :: nwA = nw3 at N3 hC3 hc4 hc5 hmu hmd hml3 C3
   clear up
   repeat' first | (k_unfold; (try dsimp only)) | ((fail_if_success (with_reducible first | refine WG ?_ | refine FG ?_)); (fail_if_success first | (with_reducible show wpAny _ _ (compareOp _ _ (Value.ref _)) _ _ _) | (with_reducible show wpAny _ _ (setItem (Value.ref _) (Value.int _ _) _) _ _ _) | (with_reducible show wpAny _ _ (getItem (Value.ref _) (Value.int _ _)) _ _ _) | ((have _ := (by with_reducible assumption : Stopper3)); (with_reducible show wpAny _ _ (execs _ _) _ _ _)) | (with_reducible show LCg.CompSrc _ _ _ _ _ _ _ _ _ _ _ _ _ _) | (with_reducible show LCt.CompSrcT _ _ _ _ _ _ _ _ _ _ _ _ _ _ _)); first | ((with_reducible show wpAny _ _ (eval (Expr.ListComp _ _ _ _) _) _ _ _); k_dflt (refine' LCt.ListComp_T (by k_asm) (by with_unfolding_all rfl) (by decide) (by rfl) (by decide) (by rfl) ?_ (by intro _; rfl))) | ((with_reducible show wpAny _ _ (subscriptTail _ _ (Value.ref _) (Value.int _ _)) _ _ _); k_dflt (refine' kda_item (knd := intKind _ _) (by k_asm) (by k_mem) (by with_reducible assumption) (intKind_is _ _ _ _) (by with_reducible assumption) ?_)) | walk1 | (dsimp only; walk1))
   (with_reducible rename Fr _ _ _ _ => kF); (with_reducible rename News _ _ _ _ => kN)
   refine LCt.CompSrcT.ledger rfl kF kN hmu (by rw [sizeLine_eq, List.size_toArray]; omega) ?_
   intro g8
   clear kF kN
   refine letX3_0_2io (fun i' ys nw' => nw' = nw3 ∧ IntsAre ys (((needF cs tot n k).take i').filter fun j => decide (j ∈ leftI (needF cs tot n) n i)) : Nat → List Value → Ledger → Prop) (fun _ _ _ => .rfl) fun J7 hJ7i hJ7o => ?_
   refine restT_inv J7 ?_ ?_ _ 0 [] _ (Nat.zero_add _) (by exact hJ7i _ _ _ (rfl) (.nil))
   ·intro i2 zs nwB hi2 hj v I2 oI2 C2 oC2 D2 m₄ h4 tk4 E4 hPv2 hNs2 hmx2 F4 N4 off2 hne2
    refine hJ7o _ _ _ hj _ fun ej3 hzs => ?_
    clear hj
    subst ej3
    refine oEEA (hui.at i2 v (by simpa using hPv2)) fun j tj er2 hj => ?_
    subst er2
    have hC4 : (C2, oC2) ∈ (I2, oI2) :: (C2, oC2) :: (D2, LCg.lst zs) :: nwB := .tail _ (.head _)
    have hc6 : (L + 1 + 1 + 1 + 1 + 1 + 1, q5) ∈ (I2, oI2) :: (C2, oC2) :: (D2, LCg.lst zs) :: nwB := .tail _ (.tail _ (.tail _ hc5))
    have hml4 : (Dl, listOf vl.toArray el) ∈ (I2, oI2) :: (C2, oC2) :: (D2, LCg.lst zs) :: nwB := .tail _ (.tail _ (.tail _ hml3))
    generalize hn4 : (I2, oI2) :: (C2, oC2) :: (D2, LCg.lst zs) :: nwB = nw4 at N4 hC4 hc6 hml4
    repeat' first | (k_unfold; (try dsimp only)) | ((fail_if_success (with_reducible first | refine WG ?_ | refine FG ?_)); (fail_if_success first | (with_reducible show wpAny _ _ (compareOp _ _ (Value.ref _)) _ _ _) | (with_reducible show wpAny _ _ (setItem (Value.ref _) (Value.int _ _) _) _ _ _) | (with_reducible show wpAny _ _ (getItem (Value.ref _) (Value.int _ _)) _ _ _) | ((have _ := (by with_reducible assumption : Stopper3)); (with_reducible show wpAny _ _ (execs _ _) _ _ _)) | (with_reducible show LCg.CompSrc _ _ _ _ _ _ _ _ _ _ _ _ _ _) | (with_reducible show LCt.CompSrcT _ _ _ _ _ _ _ _ _ _ _ _ _ _ _)); first | walk1 | (dsimp only; walk1))
    refine in_intsK N4 hml4 hvl ?_
    by_cases hjl : j ∈ leftI (needF cs tot n) n i
    ·rw [decide_eq_true hjl]
     repeat' first | (k_unfold; (try dsimp only)) | ((fail_if_success (with_reducible first | refine WG ?_ | refine FG ?_)); (fail_if_success first | (with_reducible show wpAny _ _ (compareOp _ _ (Value.ref _)) _ _ _) | (with_reducible show wpAny _ _ (setItem (Value.ref _) (Value.int _ _) _) _ _ _) | (with_reducible show wpAny _ _ (getItem (Value.ref _) (Value.int _ _)) _ _ _) | ((have _ := (by with_reducible assumption : Stopper3)); (with_reducible show wpAny _ _ (execs _ _) _ _ _)) | (with_reducible show LCg.CompSrc _ _ _ _ _ _ _ _ _ _ _ _ _ _) | (with_reducible show LCt.CompSrcT _ _ _ _ _ _ _ _ _ _ _ _ _ _ _)); first | walk1 | (dsimp only; walk1))
     refine LCg.CompEnd.intro F4 N4 nwB (by rw [← hn4]; exact fun p hp => hp) off2 (.inr ⟨_, hmu, rfl, _, rfl⟩) ?_
     refine hJ7i _ _ _ (rfl) ?_
     rw [take_pos (p := fun j => decide (j ∈ leftI (needF cs tot n) n i)) hj (decide_eq_true hjl)]
     exact hzs.append (.cons _ _ .nil)
    ·rw [decide_eq_false hjl]
     repeat' first | (k_unfold; (try dsimp only)) | ((fail_if_success (with_reducible first | refine WG ?_ | refine FG ?_)); (fail_if_success first | (with_reducible show wpAny _ _ (compareOp _ _ (Value.ref _)) _ _ _) | (with_reducible show wpAny _ _ (setItem (Value.ref _) (Value.int _ _) _) _ _ _) | (with_reducible show wpAny _ _ (getItem (Value.ref _) (Value.int _ _)) _ _ _) | ((have _ := (by with_reducible assumption : Stopper3)); (with_reducible show wpAny _ _ (execs _ _) _ _ _)) | (with_reducible show LCg.CompSrc _ _ _ _ _ _ _ _ _ _ _ _ _ _) | (with_reducible show LCt.CompSrcT _ _ _ _ _ _ _ _ _ _ _ _ _ _ _)); first | walk1 | (dsimp only; walk1))
     refine LCg.CompEnd.intro F4 N4 nwB (by rw [← hn4]; exact fun p hp => hp) off2 (.inr ⟨_, hmu, rfl, _, rfl⟩) ?_
     refine hJ7i _ _ _ (rfl) ?_
     rw [take_neg (p := fun j => decide (j ∈ leftI (needF cs tot n) n i)) hj (decide_eq_false hjl)]
     exact hzs
   ·intro zs nwB hj
    refine hJ7o _ _ _ hj _ fun ej4 hzs => ?_
    clear hj
    subst ej4
    rw [List.size_toArray, hui.length, List.take_length] at hzs
    intro Dj h4 tk4 F4 N4 o1
    replace N4 : News h₀ L h4 ((Dj, listOf zs.toArray zs.length) :: nwB) := N4
    clear C3
    dsimp only
    repeat' first | (k_unfold; (try dsimp only)) | ((fail_if_success (with_reducible first | refine WG ?_ | refine FG ?_)); (fail_if_success first | (with_reducible show wpAny _ _ (compareOp _ _ (Value.ref _)) _ _ _) | (with_reducible show wpAny _ _ (setItem (Value.ref _) (Value.int _ _) _) _ _ _) | (with_reducible show wpAny _ _ (getItem (Value.ref _) (Value.int _ _)) _ _ _) | ((have _ := (by with_reducible assumption : Stopper3)); (with_reducible show wpAny _ _ (execs _ _) _ _ _)) | (with_reducible show LCg.CompSrc _ _ _ _ _ _ _ _ _ _ _ _ _ _) | (with_reducible show LCt.CompSrcT _ _ _ _ _ _ _ _ _ _ _ _ _ _ _)); first | ((with_reducible show wpAny _ _ (newList _) _ _ _); k_dflt refine' newListK (by k_asm) (by k_asm) (by first | decide | (simp only [List.length_cons, List.length_nil]; omega)) ?_; intro _ _ _ _ _; (try dsimp only)) | walk1 | (dsimp only; walk1))
    (with_reducible rename Fr _ _ _ _ => kF); (with_reducible rename News _ _ _ _ => kN)
    rename_i De _ _
    refine eq_intsK kN (.tail _ (.head _)) hzs (.head _) .nil lawUnits ?_
    have hC9 : (C1, oC) ∈ (De, listOf (List.toArray []) 0) :: (Dj, listOf zs.toArray zs.length) :: nwB := .tail _ (.tail _ hC3)
    have sub9 : ∀ p ∈ (I1, oI) :: (C1, oC) :: (D1, LCg.lst ys) :: nwA, p ∈ (De, listOf (List.toArray []) 0) :: (Dj, listOf zs.toArray zs.length) :: nwB := fun p hp => .tail _ (.tail _ (hn3 ▸ hp))
    clear N4 F4
    generalize hn9 : (De, listOf (List.toArray []) 0) :: (Dj, listOf zs.toArray zs.length) :: nwB = nw9 at kN hC9 sub9
    by_cases hz : ((needF cs tot n k).filter fun j => decide (j ∈ leftI (needF cs tot n) n i)) = []
    ·rw [decide_eq_true hz]
     repeat' first | (k_unfold; (try dsimp only)) | ((fail_if_success (with_reducible first | refine WG ?_ | refine FG ?_)); (fail_if_success first | (with_reducible show wpAny _ _ (compareOp _ _ (Value.ref _)) _ _ _) | (with_reducible show wpAny _ _ (setItem (Value.ref _) (Value.int _ _) _) _ _ _) | (with_reducible show wpAny _ _ (getItem (Value.ref _) (Value.int _ _)) _ _ _) | ((have _ := (by with_reducible assumption : Stopper3)); (with_reducible show wpAny _ _ (execs _ _) _ _ _)) | (with_reducible show LCg.CompSrc _ _ _ _ _ _ _ _ _ _ _ _ _ _) | (with_reducible show LCt.CompSrcT _ _ _ _ _ _ _ _ _ _ _ _ _ _ _)); first | walk1 | (dsimp only; walk1))
     refine LCg.CompEnd.intro kF kN nwA sub9 off (.inr ⟨_, hml, rfl, _, rfl⟩) ?_
     refine hJ6i _ _ _ (rfl) ?_
     rw [take_pos hk (show freeP _ _ k = true by unfold freeP; rw [hz]; rfl)]
     exact hys.append (.cons _ _ .nil)
    ·rw [decide_eq_false hz]
     repeat' first | (k_unfold; (try dsimp only)) | ((fail_if_success (with_reducible first | refine WG ?_ | refine FG ?_)); (fail_if_success first | (with_reducible show wpAny _ _ (compareOp _ _ (Value.ref _)) _ _ _) | (with_reducible show wpAny _ _ (setItem (Value.ref _) (Value.int _ _) _) _ _ _) | (with_reducible show wpAny _ _ (getItem (Value.ref _) (Value.int _ _)) _ _ _) | ((have _ := (by with_reducible assumption : Stopper3)); (with_reducible show wpAny _ _ (execs _ _) _ _ _)) | (with_reducible show LCg.CompSrc _ _ _ _ _ _ _ _ _ _ _ _ _ _) | (with_reducible show LCt.CompSrcT _ _ _ _ _ _ _ _ _ _ _ _ _ _ _)); first | walk1 | (dsimp only; walk1))
     refine LCg.CompEnd.intro kF kN nwA sub9 off (.inr ⟨_, hml, rfl, _, rfl⟩) ?_
     refine hJ6i _ _ _ (rfl) ?_
     rw [take_neg hk (show freeP _ _ k = false by unfold freeP; rw [← Bool.not_eq_true, List.isEmpty_iff]; exact hz)]
     exact hys
  ·intro ys nwA hj
   refine hJ6o _ _ _ hj _ fun ej2 hys => ?_
   clear hj
   subst ej2
   rw [List.size_toArray, hvl.length, List.take_length] at hys
   intro Df h4 tk4 F4 N4 o1
   replace N4 : News h₀ L h4 ((Df, listOf ys.toArray ys.length) :: nwA) := N4
   have C6 := C5.cons (o := listOf ys.toArray ys.length) (off1_ne o1)
   generalize hn4 : (Df, listOf ys.toArray ys.length) :: nwA = nw4 at N4 C6
   dsimp only
   replace hys : IntsAre ys (freeF (needF cs tot n) (leftI (needF cs tot n) n i)) := hys
   repeat' first | (k_unfold; (try dsimp only)) | ((fail_if_success (with_reducible first | refine WG ?_ | refine FG ?_)); (fail_if_success first | (with_reducible show wpAny _ _ (compareOp _ _ (Value.ref _)) _ _ _) | (with_reducible show wpAny _ _ (setItem (Value.ref _) (Value.int _ _) _) _ _ _) | (with_reducible show wpAny _ _ (getItem (Value.ref _) (Value.int _ _)) _ _ _) | ((have _ := (by with_reducible assumption : Stopper3)); (with_reducible show wpAny _ _ (execs _ _) _ _ _)) | (with_reducible show LCg.CompSrc _ _ _ _ _ _ _ _ _ _ _ _ _ _) | (with_reducible show LCt.CompSrcT _ _ _ _ _ _ _ _ _ _ _ _ _ _ _)); first | ((with_reducible show wpAny _ _ (storeName (envOfC _ _ _ _ _) _ _) _ _ _); k_dflt refine' stF (by rfl) (by rfl) (by rfl) (by with_reducible assumption) (by k_asm) (by k_asm) (by rfl) ?_; intro _ _ _ _ _; (try dsimp only)) | walk1 | (dsimp only; walk1))
   (with_reducible rename Fr _ _ _ _ => kF); (with_reducible rename News _ _ _ _ => kN); (with_reducible rename LF _ _ _ _ => C7)
   have hDuI : Du ≠ I' := hne _ (P.lf.rst _ (.head _)).1
   have hrI : ∀ p ∈ rs, p.1 ≠ I' := fun p hp => hne p (P.lf.rst p (.tail _ hp)).1
   have hDf := off1_ne o1
   have hDuDf : Du ≠ Df := hDf _ (C5.rst _ (.tail _ (.head _))).1
   have hIDf : I' ≠ Df := hDf _ (C5.rst _ (.head _)).1
   clear C6 C5 N4 F4 hq4 hq5 hd4 hd5 hml
   first | ((with_reducible refine execs_cons_gen ?_); intro _; (try dsimp only)) | walk1
   refine letX2_3_6eio (fun m₂ nw => ∃ (c : Nat → Option Value) (vd' : List Value) (ed' : Nat), LF nw L c ((I', it) :: (Du, listOf vd'.toArray ed') :: (Df, listOf ys.toArray ys.length) :: rs) ∧ AfterS3 w L cs tot n D Do Dn Dd vs yo yn ep eo en m₂ nw c tt tn tb ((Df, listOf ys.toArray ys.length) :: rs) od la ∧ CV c 5 (.ref Dl) ∧ CV c 6 (.ref Df) ∧ Has m₂ (Str.ofString "due") (.ref Du) ∧ Lists ((Df, listOf ys.toArray ys.length) :: rs) vd' (dueI (needF cs tot n) n (i + 1)) : FMap → Ledger → Prop) (fun _ _ => .rfl) fun P2 hP2 hP2i hP2o => ?_
   obtain ⟨-, odu, oA, oc5, ok4, oleft, olv, odue⟩ := P
   obtain ⟨-, c0, c1, c2, c4, k1, k2, k3, r1, r2, r3, r4, hdd, hla⟩ := oA
   have hla' : ∀ k ∈ rng n, ∃ us es, (la k, listOf (List.toArray us) es) ∈ (Df, listOf ys.toArray ys.length) :: rs ∧ IntsAre us (needF cs tot n k) := fun k hk => by
    refine oEEA (hla k hk) fun us es hu hui => ?_
    exact ⟨us, es, .tail _ hu, hui⟩
   refine Stmt_cut P2 kF ?_ ?_
   ·clear st3
    repeat' first | (k_unfold; (try dsimp only)) | ((fail_if_success (with_reducible first | refine WG ?_ | refine FG ?_)); (fail_if_success first | (with_reducible show wpAny _ _ (compareOp _ _ (Value.ref _)) _ _ _) | (with_reducible show wpAny _ _ (setItem (Value.ref _) (Value.int _ _) _) _ _ _) | (with_reducible show wpAny _ _ (getItem (Value.ref _) (Value.int _ _)) _ _ _) | ((have _ := (by with_reducible assumption : Stopper3)); (with_reducible show wpAny _ _ (execs _ _) _ _ _)) | (with_reducible show LCg.CompSrc _ _ _ _ _ _ _ _ _ _ _ _ _ _) | (with_reducible show LCt.CompSrcT _ _ _ _ _ _ _ _ _ _ _ _ _ _ _)); first | ((with_reducible show wpAny _ _ (eval (Expr.Name _ _) (envOfC _ _ _ _ _)) _ _ _); k_dflt refine' rdF (by rfl) (by rfl) (by rfl) (by with_reducible assumption) (by k_asm) (by rfl) (by first | exact rfl | exact CV.get (by with_reducible assumption) (by exact rfl)) ?_) | ((with_reducible show wpAny _ _ (newList _) _ _ _); k_dflt refine' newList_LF (by with_reducible assumption) (by k_asm) (by k_asm) (by first | decide | (simp only [List.length_cons, List.length_nil]; omega)) ?_; intro _ _ _ _ _ _ _; (try dsimp only)) | walk1 | (dsimp only; walk1))
    (with_reducible rename Fr _ _ _ _ => kF2); (with_reducible rename News _ _ _ _ => kN2); (with_reducible rename LF _ _ _ _ => C8)
    refine ne_intsK kN2 (C8.rst _ (.tail _ (.head _))).1 hys (C8.rst _ (.head _)).1 .nil lawUnits ?_
    have C9 := C8.sub (rest' := (I', it) :: (Du, listOf vd.toArray ed) :: (Df, listOf ys.toArray ys.length) :: rs) (by
     intro p hp
     rcases List.mem_cons.mp hp with rfl | hp
     ·exact .tail _ (.tail _ (.head _))
     ·rcases List.mem_cons.mp hp with rfl | hp
      ·exact .tail _ (.tail _ (.tail _ (.head _)))
      ·rcases List.mem_cons.mp hp with rfl | hp
       ·exact .tail _ (.head _)
       ·exact .tail _ (.tail _ (.tail _ (.tail _ hp))))
    by_cases hf : freeF (needF cs tot n) (leftI (needF cs tot n) n i) = []
    ·rw [decide_eq_true hf]
     repeat' first | (k_unfold; (try dsimp only)) | ((fail_if_success (with_reducible first | refine WG ?_ | refine FG ?_)); (fail_if_success first | (with_reducible show wpAny _ _ (compareOp _ _ (Value.ref _)) _ _ _) | (with_reducible show wpAny _ _ (setItem (Value.ref _) (Value.int _ _) _) _ _ _) | (with_reducible show wpAny _ _ (getItem (Value.ref _) (Value.int _ _)) _ _ _) | ((have _ := (by with_reducible assumption : Stopper3)); (with_reducible show wpAny _ _ (execs _ _) _ _ _)) | (with_reducible show LCg.CompSrc _ _ _ _ _ _ _ _ _ _ _ _ _ _) | (with_reducible show LCt.CompSrcT _ _ _ _ _ _ _ _ _ _ _ _ _ _ _)); first | ((with_reducible refine execs_nil_gen ?_); intro _; (try dsimp only)) | walk1 | (dsimp only; walk1))
     refine Cut.mk kF2 kN2 ?_
     refine hP2i _ _ _ (vd) (ed) (C9) (⟨C9.sub fun p hp => .tail _ (.tail _ hp), ⟨c0.out⟩, ⟨c1.out⟩, ⟨c2.out⟩, ⟨c4.out⟩, ⟨k1.out⟩, ⟨k2.out⟩, ⟨k3.out⟩, .tail _ r1, .tail _ r2, .tail _ r3, .tail _ r4, hdd, hla'⟩) (⟨oc5.out⟩) (⟨rfl⟩) (⟨ok4.out⟩) ?_
     rw [due_same hf]
     exact odue.mono fun h => .tail _ h
    ·rw [decide_eq_false hf]
     have hU := C8.uniq
     have hmu := (C8.rst _ (.tail _ (.tail _ (.tail _ (.head _))))).1
     have hul : vd.toArray.size ≤ sizeLine := by
      rw [sizeLine_eq, List.size_toArray, odue.length]
      have := dueI_len (needF cs tot n) n i
      omega
     clear C7 kF kN
     repeat' first | (k_unfold; (try dsimp only)) | ((fail_if_success (with_reducible first | refine WG ?_ | refine FG ?_)); (fail_if_success first | (with_reducible show wpAny _ _ (compareOp _ _ (Value.ref _)) _ _ _) | (with_reducible show wpAny _ _ (setItem (Value.ref _) (Value.int _ _) _) _ _ _) | (with_reducible show wpAny _ _ (getItem (Value.ref _) (Value.int _ _)) _ _ _) | ((have _ := (by with_reducible assumption : Stopper3)); (with_reducible show wpAny _ _ (execs _ _) _ _ _)) | (with_reducible show LCg.CompSrc _ _ _ _ _ _ _ _ _ _ _ _ _ _) | (with_reducible show LCt.CompSrcT _ _ _ _ _ _ _ _ _ _ _ _ _ _ _)); first | ((with_reducible show wpAny _ _ (eval (Expr.Name _ _) (envOfC _ _ _ _ _)) _ _ _); k_dflt refine' rdF (by rfl) (by rfl) (by rfl) (by with_reducible assumption) (by k_asm) (by rfl) (by first | exact rfl | exact CV.get (by with_reducible assumption) (by exact rfl)) ?_) | ((with_reducible show wpAny _ _ (eval (Expr.Name _ _) (envOfC _ _ _ _ _)) _ _ _); k_dflt first | refine' nmL (by rfl) (by first | rfl | assumption) (by k_asm) (by first | exact Has.get (by with_reducible assumption) (by exact rfl) | exact rfl) ?_ | refine' nmC (by rfl) (by first | rfl | assumption) (by k_asm) (by rfl) (by k_mem) (by with_reducible assumption) ?_) | ((with_reducible refine execs_cons_gen ?_); intro _; (try dsimp only)) | ((with_reducible refine execs_nil_gen ?_); intro _; (try dsimp only)) | walk1 | (dsimp only; walk1))
     (with_reducible rename Fr _ _ _ _ => kF); (with_reducible rename News _ _ _ _ => kN)
     rw [List.push_toArray] at kN
     refine Cut.mk kF kN ?_
     rw [hP2]
     have C10 := C9.set (o' := listOf (vd ++ [Value.ref Df]).toArray (ed + 1)) (.tail _ (.head _))
     rw [setL_cons, if_neg (Ne.symm hDuI), setL_cons, if_pos rfl, setL_cons, if_neg (Ne.symm hDuDf), setL_off odu] at C10
     refine ⟨_, _, _, C10, ⟨C10.sub fun p hp => .tail _ (.tail _ hp), ⟨c0.out⟩, ⟨c1.out⟩, ⟨c2.out⟩, ⟨c4.out⟩, ⟨k1.out⟩, ⟨k2.out⟩, ⟨k3.out⟩, .tail _ r1, .tail _ r2, .tail _ r3, .tail _ r4, hdd, hla'⟩, ⟨oc5.out⟩, ⟨rfl⟩, ⟨ok4.out⟩, ?_⟩
     rw [due_next hf]
     exact Lists.append (.cons (.head _) hys .nil) (odue.mono fun h => .tail _ h)
   ·intro m₂ nw2 h₂ tk₂ kF kN hp
    refine hP2o _ _ hp _ fun c' vd' ed' C5 PA c5 c6 k4 hdue' => ?_
    clear hp
    obtain ⟨-, c0', c1', c2', c4', k1', k2', k3', r1', r2', r3', r4', -, -⟩ := PA
    have hm1 : (Dl, listOf vl.toArray el) ∈ nw2 := (C5.rst _ (.tail _ (.tail _ (.tail _ oleft)))).1
    have hm2 : (Df, listOf ys.toArray ys.length) ∈ nw2 := (C5.rst _ (.tail _ (.tail _ (.head _)))).1
    first | ((with_reducible refine execs_cons_gen ?_); intro _; (try dsimp only)) | walk1
    repeat' first | (k_unfold; (try dsimp only)) | ((fail_if_success (with_reducible first | refine WG ?_ | refine FG ?_)); (fail_if_success first | (with_reducible show wpAny _ _ (compareOp _ _ (Value.ref _)) _ _ _) | (with_reducible show wpAny _ _ (setItem (Value.ref _) (Value.int _ _) _) _ _ _) | (with_reducible show wpAny _ _ (getItem (Value.ref _) (Value.int _ _)) _ _ _) | ((have _ := (by with_reducible assumption : Stopper3)); (with_reducible show wpAny _ _ (execs _ _) _ _ _)) | (with_reducible show LCg.CompSrc _ _ _ _ _ _ _ _ _ _ _ _ _ _) | (with_reducible show LCt.CompSrcT _ _ _ _ _ _ _ _ _ _ _ _ _ _ _)); first | ((with_reducible show wpAny _ _ (exec (Stmt.Assign _ (Expr.ListComp _ _ _ _) _) _) _ _ _); k_dflt (refine' wpAny_Assign_Name ?_ (by with_unfolding_all rfl))) | ((with_reducible show wpAny _ _ (eval (Expr.Name _ _) (envOfC _ _ _ _ _)) _ _ _); k_dflt refine' rdF (by rfl) (by rfl) (by rfl) (by with_reducible assumption) (by k_asm) (by rfl) (by first | exact rfl | exact CV.get (by with_reducible assumption) (by exact rfl)) ?_) | ((with_reducible show wpAny _ _ (eval (Expr.ListComp _ _ _ _) _) _ _ _); k_dflt (refine' LCt.ListComp_T (by k_asm) (by with_unfolding_all rfl) (by decide) (by rfl) (by decide) (by rfl) ?_ (by intro _; rfl))) | walk1 | (dsimp only; walk1))
    (with_reducible rename Fr _ _ _ _ => kF); (with_reducible rename News _ _ _ _ => kN)
    refine LCt.CompSrcT.ledger rfl kF kN hm1 (by rw [sizeLine_eq, List.size_toArray]; omega) ?_
    intro g8
    clear kF kN
    refine oEA (C5.cell 6 (by decide)) fun q6 hq6 hd6 => ?_
    rw [c6.out] at hd6
    refine letX3_0_2io (fun i' ys nw' => nw' = nw2 ∧ IntsAre ys (((leftI (needF cs tot n) n i).take i').filter fun k => decide (k ∉ freeF (needF cs tot n) (leftI (needF cs tot n) n i))) : Nat → List Value → Ledger → Prop) (fun _ _ _ => .rfl) fun J7 hJ7i hJ7o => ?_
    refine restT_inv J7 ?_ ?_ _ 0 [] _ (Nat.zero_add _) (by exact hJ7i _ _ _ (rfl) (.nil))
    ·intro i2 zs nwB hi2 hj v I2 oI2 C2 oC2 D2 m₄ h4 tk4 E4 hPv2 hNs2 hmx2 F4 N4 off2 hne2
     refine hJ7o _ _ _ hj _ fun ej5 hzs => ?_
     clear hj
     subst ej5
     refine oEEA (hvl.at i2 v (by simpa using hPv2)) fun j tj er3 hj => ?_
     subst er3
     have hC4 : (C2, oC2) ∈ (I2, oI2) :: (C2, oC2) :: (D2, LCg.lst zs) :: nwB := .tail _ (.head _)
     have hc6 : (L + 1 + 1 + 1 + 1 + 1 + 1 + 1, q6) ∈ (I2, oI2) :: (C2, oC2) :: (D2, LCg.lst zs) :: nwB := .tail _ (.tail _ (.tail _ hq6))
     have hml4 : (Df, listOf ys.toArray ys.length) ∈ (I2, oI2) :: (C2, oC2) :: (D2, LCg.lst zs) :: nwB := .tail _ (.tail _ (.tail _ hm2))
     generalize hn4 : (I2, oI2) :: (C2, oC2) :: (D2, LCg.lst zs) :: nwB = nw4 at N4 hC4 hc6 hml4
     clear C5
     repeat' first | (k_unfold; (try dsimp only)) | ((fail_if_success (with_reducible first | refine WG ?_ | refine FG ?_)); (fail_if_success first | (with_reducible show wpAny _ _ (compareOp _ _ (Value.ref _)) _ _ _) | (with_reducible show wpAny _ _ (setItem (Value.ref _) (Value.int _ _) _) _ _ _) | (with_reducible show wpAny _ _ (getItem (Value.ref _) (Value.int _ _)) _ _ _) | ((have _ := (by with_reducible assumption : Stopper3)); (with_reducible show wpAny _ _ (execs _ _) _ _ _)) | (with_reducible show LCg.CompSrc _ _ _ _ _ _ _ _ _ _ _ _ _ _) | (with_reducible show LCt.CompSrcT _ _ _ _ _ _ _ _ _ _ _ _ _ _ _)); first | walk1 | (dsimp only; walk1))
     refine notIn_intsK N4 hml4 hys ?_
     by_cases hjl : j ∈ freeF (needF cs tot n) (leftI (needF cs tot n) n i)
     ·rw [decide_eq_true hjl]
      repeat' first | (k_unfold; (try dsimp only)) | ((fail_if_success (with_reducible first | refine WG ?_ | refine FG ?_)); (fail_if_success first | (with_reducible show wpAny _ _ (compareOp _ _ (Value.ref _)) _ _ _) | (with_reducible show wpAny _ _ (setItem (Value.ref _) (Value.int _ _) _) _ _ _) | (with_reducible show wpAny _ _ (getItem (Value.ref _) (Value.int _ _)) _ _ _) | ((have _ := (by with_reducible assumption : Stopper3)); (with_reducible show wpAny _ _ (execs _ _) _ _ _)) | (with_reducible show LCg.CompSrc _ _ _ _ _ _ _ _ _ _ _ _ _ _) | (with_reducible show LCt.CompSrcT _ _ _ _ _ _ _ _ _ _ _ _ _ _ _)); first | walk1 | (dsimp only; walk1))
      refine LCg.CompEnd.intro F4 N4 nwB (by rw [← hn4]; exact fun p hp => hp) off2 (.inr ⟨_, hm1, rfl, _, rfl⟩) ?_
      refine hJ7i _ _ _ (rfl) ?_
      rw [take_neg (p := fun k => decide (k ∉ freeF (needF cs tot n) (leftI (needF cs tot n) n i))) hj (decide_eq_false (fun q => q hjl))]
      exact hzs
     ·rw [decide_eq_false hjl]
      repeat' first | (k_unfold; (try dsimp only)) | ((fail_if_success (with_reducible first | refine WG ?_ | refine FG ?_)); (fail_if_success first | (with_reducible show wpAny _ _ (compareOp _ _ (Value.ref _)) _ _ _) | (with_reducible show wpAny _ _ (setItem (Value.ref _) (Value.int _ _) _) _ _ _) | (with_reducible show wpAny _ _ (getItem (Value.ref _) (Value.int _ _)) _ _ _) | ((have _ := (by with_reducible assumption : Stopper3)); (with_reducible show wpAny _ _ (execs _ _) _ _ _)) | (with_reducible show LCg.CompSrc _ _ _ _ _ _ _ _ _ _ _ _ _ _) | (with_reducible show LCt.CompSrcT _ _ _ _ _ _ _ _ _ _ _ _ _ _ _)); first | walk1 | (dsimp only; walk1))
      refine LCg.CompEnd.intro F4 N4 nwB (by rw [← hn4]; exact fun p hp => hp) off2 (.inr ⟨_, hm1, rfl, _, rfl⟩) ?_
      refine hJ7i _ _ _ (rfl) ?_
      rw [take_pos (p := fun k => decide (k ∉ freeF (needF cs tot n) (leftI (needF cs tot n) n i))) hj (decide_eq_true hjl)]
      exact hzs.append (.cons _ _ .nil)
    ·intro zs nwB hj
     refine hJ7o _ _ _ hj _ fun ej6 hzs => ?_
     clear hj
     subst ej6
     rw [List.size_toArray, hvl.length, List.take_length] at hzs
     intro Dr h4 tk4 F4 N4 o2
     replace N4 : News h₀ L h4 ((Dr, listOf zs.toArray zs.length) :: nwB) := N4
     have C6 := C5.cons (o := listOf zs.toArray zs.length) (off1_ne o2)
     generalize hn4 : (Dr, listOf zs.toArray zs.length) :: nwB = nw4 at N4 C6
     have hDr := off1_ne o2
     have hIDr : I' ≠ Dr := hDr _ (C5.rst _ (.head _)).1
     have hDuDr : Du ≠ Dr := hDr _ (C5.rst _ (.tail _ (.head _))).1
     clear st3 C5
     dsimp only
     repeat' first | (k_unfold; (try dsimp only)) | ((fail_if_success (with_reducible first | refine WG ?_ | refine FG ?_)); (fail_if_success first | (with_reducible show wpAny _ _ (compareOp _ _ (Value.ref _)) _ _ _) | (with_reducible show wpAny _ _ (setItem (Value.ref _) (Value.int _ _) _) _ _ _) | (with_reducible show wpAny _ _ (getItem (Value.ref _) (Value.int _ _)) _ _ _) | ((have _ := (by with_reducible assumption : Stopper3)); (with_reducible show wpAny _ _ (execs _ _) _ _ _)) | (with_reducible show LCg.CompSrc _ _ _ _ _ _ _ _ _ _ _ _ _ _) | (with_reducible show LCt.CompSrcT _ _ _ _ _ _ _ _ _ _ _ _ _ _ _)); first | ((with_reducible show wpAny _ _ (storeName (envOfC _ _ _ _ _) _ _) _ _ _); k_dflt refine' stF (by rfl) (by rfl) (by rfl) (by with_reducible assumption) (by k_asm) (by k_asm) (by rfl) ?_; intro _ _ _ _ _; (try dsimp only)) | ((with_reducible refine execs_nil_gen ?_); intro _; (try dsimp only)) | walk1 | (dsimp only; walk1))
     (with_reducible rename Fr _ _ _ _ => kF); (with_reducible rename News _ _ _ _ => kN); (with_reducible rename LF _ _ _ _ => C9)
     have C10 := C9.sub (rest' := (I', it) :: (Du, listOf vd'.toArray ed') :: (Dr, listOf zs.toArray zs.length) :: (Df, listOf ys.toArray ys.length) :: rs) (by
      intro p hp
      rcases List.mem_cons.mp hp with rfl | hp
      ·exact .tail _ (.head _)
      ·rcases List.mem_cons.mp hp with rfl | hp
       ·exact .tail _ (.tail _ (.head _))
       ·rcases List.mem_cons.mp hp with rfl | hp
        ·exact .head _
        ·exact .tail _ (.tail _ (.tail _ hp)))
     refine FPost.next kF (news_drop kN (C10.rst _ (.head _)).1) dropA_ne ?_
     rw [hJ]
     have C11 := C10.drop (by
      intro p hp
      rcases List.mem_cons.mp hp with rfl | hp
      ·exact hDuI
      ·rcases List.mem_cons.mp hp with rfl | hp
       ·exact Ne.symm hIDr
       ·rcases List.mem_cons.mp hp with rfl | hp
        ·exact Ne.symm hIDf
        ·exact hrI p hp)
     refine ⟨_, tt, tn, tb, (Dr, listOf zs.toArray zs.length) :: (Df, listOf ys.toArray ys.length) :: rs, Dr, Du, zs, vd', zs.length, ed', C11, ?_, ⟨C11.sub fun p hp => .tail _ hp, ⟨c0'.out⟩, ⟨c1'.out⟩, ⟨c2'.out⟩, ⟨c4'.out⟩, k1', k2', k3', .tail _ r1', .tail _ r2', .tail _ r3', .tail _ r4', hdd, fun k hk => ?_⟩, ⟨rfl⟩, k4, .head _, hzs, hdue'.mono fun h => .tail _ h⟩
     ·intro p hp
      rcases List.mem_cons.mp hp with rfl | hp
      ·exact Ne.symm hDuDr
      ·rcases List.mem_cons.mp hp with rfl | hp
       ·exact Ne.symm hDuDf
       ·exact odu p hp
     ·refine oEEA (hla' k hk) fun us es hu hui => ?_
      exact ⟨us, es, .tail _ hu, hui⟩
 ·intro m₁ nw h₁ tk₁ hj F₁ N₁
  refine hJo _ _ _ hj _ fun c tt tn tb rs Dl Du vl vd el ed P => ?_
  clear hj
  dsimp only
  first | ((with_reducible refine execs_nil_gen ?_); intro _; (try dsimp only)) | walk1
  have h9 := fun tk => hret _ _ _ _ _ _ _ _ _ _ _ _ _ _ tk F₁ N₁ P
  conv at h9 in (lawB 12) => unfold lawB; whnf
  unfold lawE at h9
  simp only [show lawS = _ from by conv => lhs; whnf] at h9
  exact h9 _
end
section
open PySem PySem.W PyProof.Rows PySem.Calls
variable {w : World} {mean : ExcName → Option Value} {mg mb : Str → Option Value} {dp un : Nat} {gd : Option (List Code)} {cn : Str} {cs : Scope} {a : Addr} {ccd : Value} {cl : List (Str × Addr)} {outer : List Env} {A₀ : Around} {base h₀ : Heap} {L : Addr} {m : Str → Option Value} {news : List (Addr × Obj)} {s : Shared} {Q E : Value → Shared → Prop}
structure Names (m : FMap) (Y : Lay) (O : Own) : Prop where
 n2i : Has m (Str.ofString "n2i") (.ref Y.N2)
 stack : Has m (Str.ofString "stack") (.ref O.s)
 itstack : Has m (Str.ofString "itstack") (.ref O.t)
 seen : Has m (Str.ofString "seen") (.ref O.e)
 n2s : Has m (Str.ofString "node2stacki") (.ref O.m)
structure Grd (w : World) (mean : ExcName → Option Value) (mg mb : Str → Option Value) (A : Around) (base : Heap) (envs : List Env) (g₀ g : Heap) : Prop where
 turn : KtsTurn (envs.filterMap (·.frame)) g₀ g
 below : Below A base envs g
 kin : (Mine.hd.heap_39 w.params).In g
 top : Top vw loose0 mean mg mb g
 dicts : KtsDicts (envs.filterMap (·.frame)) g
theorem find_spec {Y : Lay} {keys : List Int} {np : Int → Int} {succ : Int → List Int} {rd : Value} {po fi : Int} {rest : Ledger} (B : Below A₀ base outer h₀) (F : Fr h₀ L s.heap m) (X : (Mine.hd.heap_39 w.params).In h₀) (N : News h₀ L s.heap news) (T : Top vw loose0 mean mg mb h₀) (hk : cs.kind = .function)
  (XB : (Mine.hd.heap_39 w.params).In base) (TB : Top vw loose0 mean mg mb base) (D : KtsDicts (outer.filterMap (·.frame)) h₀)
  (hd : dp + 19 < recursionLimit) (hu : un + 172 < cLine) (I : SIn w news Y keys np succ rd po fi rest) (hsz : keys.length ≤ 20) (hsl : ∀ k ∈ keys, (succ k).length ≤ 12) (hss : ∀ k ∈ keys, ∀ j ∈ succ k, j ∈ keys)
  (hnone : ∀ h₀' news' h' tk', Grd w mean mg mb A₀ base outer h₀ h₀' → Fr h₀' L h' m → News h₀' L h' news' → SIn w news' Y keys np succ rd po fi rest → Ranked keys succ → Q .none { s with heap := h', toks := tk' })
  (hring : ∀ h₀' news' h' tk' D vs ep rest', Grd w mean mg mb A₀ base outer h₀ h₀' → Fr h₀' L h' m → News h₀' L h' news' → SIn w news' Y keys np succ rd po fi rest' → (∀ p ∈ rest, p ∈ rest') → (D, listOf (List.toArray vs) ep) ∈ rest' → vs ≠ [] → vs.length ≤ 1000 → Ring keys succ → Q (.ref D) { s with heap := h', toks := tk' }) :
  wpAny (model prg w) (ktrTop dp un gd cn cs L a ccd cl outer) (call (.ref 187) [.ref Y.S]) Q E s := by
 refine wpAny_call ?_
 k_dflt (refine' code_defE ?k1u1 ?k2u1 ?k3u1 ?k4u1 ?k5u1 ?kAu1 ?kFu1 ?kKu1 ?kXBu1 ?kTBu1 ?kDu1 ?k6u1 ?k7u1 ?k8u1 ?k9u1 ?kBu1 ?_ ?c2u1 ?c3u1 ?c4u1 ?c5u1; (case kAu1 => exact rfl); (case kFu1 => exact rfl); (case kKu1 => first | assumption | exact rfl); (case k1u1 => k_asm); (case k2u1 => k_asm); (case k3u1 => k_asm); (case k4u1 => k_asm); (case k5u1 => k_asm); (case kXBu1 => assumption); (case kTBu1 => assumption); (case kDu1 => assumption); (case k6u1 => k_is); (case k7u1 => k_is); (case k8u1 => ktr_room); (case k9u1 => first | exact BindsTo.of_eq rfl | exact binds_K (by k_in) rfl (by k_is) rfl rfl rfl | (refine' kp_binds ?kxu1 ?keu1; (case kxu1 => k_in); (case keu1 => exact fun _ => rfl))); (case c5u1 => decide); (case kBu1 => exact locs rfl); (case c2u1 => exact rfl); (case c3u1 => exact rfl); (case c4u1 => exact rfl); k_whole; intro _ _ _ _ _ _ zzB' _ _ _; (try dsimp only); (try k_lift zzB'); (try k_fold))
 refine wpAny_noRaise ?_
 clear F N
 have hS := I.inst
 refine ex6 (I.sd) fun t1 t2 t3 t4 tpo tfi hdS => ?_
 repeat' first | (k_unfold; (try dsimp only)) | ((fail_if_success (with_reducible first | refine WG ?_ | refine FG ?_)); (fail_if_success first | ((have _ := (by with_reducible assumption : Stopper3)); with_reducible show wpAny _ _ (execs _ _) _ _ _) | ((have _ := (by with_reducible assumption : Stopper5)); with_reducible show wpAny _ _ (delItem _ _) _ _ _) | ((have _ := (by with_reducible assumption : Stopper4)); with_reducible show wpAny _ _ (noteFrame _ _) _ _ _) | ((have _ := (by with_reducible assumption : Stopper2)); with_reducible show wpAny _ _ (subscriptTail _ _ (Value.ref _) (Value.ref _)) _ _ _) | ((have _ := (by with_reducible assumption : Stopper)); with_reducible show wpAny _ _ (exec (Stmt.If _ _ _ _) _) _ _ _)); first | ((with_reducible show wpAny _ _ (eval (Expr.Name _ _) _) _ _ _); k_dflt refine' ld (by k_asm) (by first | exact Has.get (by with_reducible assumption) (by exact rfl) | exact rfl) ?_) | ((with_reducible refine execs_cons_gen ?_); intro _; (try dsimp only)) | walk1 | (dsimp only; walk1))
 (with_reducible rename Obj.IsDictOf (intKind _ _) _ [] => hom)
 (with_reducible rename Obj.SetObjOf (intKind _ _) _ _ _ => hso)
 (with_reducible rename (_ == sysModules) = false => hnm)
 (with_reducible rename ∀ p ∈ news, p.1 < _ => l1)
 (with_reducible rename _ < _ ∧ AllLt _ news => l2)
 (with_reducible rename _ < _ ∧ _ < _ ∧ AllLt _ news => l3)
 (with_reducible rename _ < _ ∧ _ < _ ∧ _ < _ ∧ AllLt _ news => l4)
 (with_reducible rename Fr _ _ _ _ => kF); (with_reducible rename News _ _ _ _ => kN)
 (with_reducible rename Below (ktrTop _ _ _ _ _ _ _ _ _ _) _ _ _ => bB)
 (with_reducible rename KtsDicts _ _ => bD)
 rename_i g' L' _ FG' X' T' _ _ aS _ _ _ aT _ _ _ aE _ led _ _ _ aM _ oM _ _ _ _ _
 have c1 : ∀ p ∈ news, p.1 ≠ aS := fun p hp => Nat.ne_of_lt (l1 p hp)
 have I1 := I.cons (o := listOf #[] 0) c1
 have c2 : ∀ p ∈ (aS, listOf #[] 0) :: news, p.1 ≠ aT := List.forall_mem_cons.mpr ⟨Nat.ne_of_lt l2.1, fun p hp => Nat.ne_of_lt (allLt_mem l2.2 p hp)⟩
 have I2 := I1.cons (o := listOf #[] 0) c2
 have c3 : ∀ p ∈ (aT, listOf #[] 0) :: (aS, listOf #[] 0) :: news, p.1 ≠ aE := List.forall_mem_cons.mpr ⟨Nat.ne_of_lt l3.1, List.forall_mem_cons.mpr ⟨Nat.ne_of_lt l3.2.1, fun p hp => Nat.ne_of_lt (allLt_mem l3.2.2 p hp)⟩⟩
 have I3 := I2.cons (o := { cls := Value.type "set", data := Data.set #[] 0 (SetTable.fresh 0 0 led) }) c3
 have c4 : ∀ p ∈ (aE, ({ cls := Value.type "set", data := Data.set #[] 0 (SetTable.fresh 0 0 led) } : Obj)) :: (aT, listOf #[] 0) :: (aS, listOf #[] 0) :: news, p.1 ≠ aM := List.forall_mem_cons.mpr ⟨Nat.ne_of_lt l4.1, List.forall_mem_cons.mpr ⟨Nat.ne_of_lt l4.2.1, List.forall_mem_cons.mpr ⟨Nat.ne_of_lt l4.2.2.1, fun p hp => Nat.ne_of_lt (allLt_mem l4.2.2.2 p hp)⟩⟩⟩
 have I4 := I3.cons (o := oM) c4
 replace kN : News g' L' _ ((aM, oM) :: (aE, { cls := Value.type "set", data := Data.set #[] 0 (SetTable.fresh 0 0 led) }) :: (aT, listOf #[] 0) :: (aS, listOf #[] 0) :: news) := kN
 refine ex1 ((⟨_, rfl⟩ : ∃ O : Own, O = ⟨aS, aT, aE, aM⟩)) fun O hO => ?_
 have D4 : DIn w Y rest ((aM, oM) :: (aE, { cls := Value.type "set", data := Data.set #[] 0 (SetTable.fresh 0 0 led) }) :: (aT, listOf #[] 0) :: (aS, listOf #[] 0) :: rest) O [] (fun _ => false) 0 := by
  subst hO
  refine ⟨fun p hp => .tail _ (.tail _ (.tail _ (.tail _ hp))), ⟨[], 0, .tail _ (.tail _ (.tail _ (.head _))), .nil⟩, ⟨0, .tail _ (.tail _ (.head _))⟩, fun x hx => (by cases hx), ⟨_, .tail _ (.head _), hso⟩, ⟨oM, [], .head _, hom, rfl, fun x hx => (by cases hx)⟩, hnm, ?_, fun p hp => ⟨?_, fun x hx => (by cases hx)⟩, fun x hx => (by cases hx)⟩
  ·exact ⟨Nat.ne_of_lt l2.1, Nat.ne_of_lt l3.2.1, Nat.ne_of_lt l4.2.2.1, Nat.ne_of_lt l3.1, Nat.ne_of_lt l4.2.1, Nat.ne_of_lt l4.1⟩
  ·have hpn := (I.rst p hp).1
   exact fun h => h.elim (fun e => c1 p hpn e) fun h => h.elim (fun e => c2 p (.tail _ hpn) e) fun h => h.elim (fun e => c3 p (.tail _ (.tail _ hpn)) e) fun e => c4 p (.tail _ (.tail _ (.tail _ hpn))) e
 have hG0 : Grd w mean mg mb (ktrTop dp un gd cn cs L a ccd cl outer) base (envX cn cs L a ccd cl :: outer) g' g' := ⟨KtsTurn.refl, bB, X', T', bD⟩
 refine For_enter ?_
 repeat' first | (k_unfold; (try dsimp only)) | ((fail_if_success (with_reducible first | refine WG ?_ | refine FG ?_)); (fail_if_success first | ((have _ := (by with_reducible assumption : Stopper3)); with_reducible show wpAny _ _ (execs _ _) _ _ _) | ((have _ := (by with_reducible assumption : Stopper5)); with_reducible show wpAny _ _ (delItem _ _) _ _ _) | ((have _ := (by with_reducible assumption : Stopper4)); with_reducible show wpAny _ _ (noteFrame _ _) _ _ _) | ((have _ := (by with_reducible assumption : Stopper2)); with_reducible show wpAny _ _ (subscriptTail _ _ (Value.ref _) (Value.ref _)) _ _ _) | ((have _ := (by with_reducible assumption : Stopper)); with_reducible show wpAny _ _ (exec (Stmt.If _ _ _ _) _) _ _ _)); first | ((with_reducible show wpAny _ _ (eval (Expr.Name _ _) _) _ _ _); k_dflt refine' ld (by k_asm) (by first | exact Has.get (by with_reducible assumption) (by exact rfl) | exact rfl) ?_) | walk1 | (dsimp only; walk1))
 (with_reducible rename Fr _ _ _ _ => kF); (with_reducible rename News _ _ _ _ => kN)
 refine oEA (I4.n2) fun o hno hdo => ?_
 refine oEEAAAA (id hdo) fun es ep hex hes hK hP hnd => ?_
 have hat : ∀ {h : Heap} {L : Addr} {l : Ledger} {g : Heap}, News g L h l → (Y.N2, o) ∈ l → h.DictAt (intKind prg w) Y.N2 (pairsOfK Y keys) ep := fun N h => ⟨o, es, (N _ h).1, hex, hes, hK, hP, hnd⟩
 refine letJE (fun rest fr fin S g m₁ news₁ => Grd w mean mg mb (ktrTop dp un gd cn cs L a ccd cl outer) base (envX cn cs L a ccd cl :: outer) g' g ∧ Names m₁ Y O ∧ (Y.N2, o) ∈ news₁ ∧ Dfs keys succ (fp fr) fin S ∧ ∃ rest' n, SIn w news₁ Y keys np succ rd po fi rest' ∧ DIn w Y rest rest' O fr S n ∧ n + unseen keys S ≤ keys.length : Ledger → List F4 → List Int → (Int → Bool) → Heap → FMap → Ledger → Prop) fun P0 hP0 => ?_
 refine letX4_2_2eo (fun i g m₁ news₁ => ∃ fin S, P0 rest [] fin S g m₁ news₁ ∧ ∀ j ∈ keys.take i, S j = true : Nat → Heap → FMap → Ledger → Prop) (fun _ _ _ _ => .rfl) fun J hJ hJo => ?_
 refine ForAt_dictG (s := ⟨_, _, _, _, _⟩) (knd := intKind prg w) (kvs := pairsOfK Y keys) (ep := ep) (d := Y.N2) J (by rfl) I.nm (hat kN hno) kF kN ?_ ?_ ?_ ?_
 ·rw [hJ, hP0]
  refine ⟨[], fun _ => false, ⟨hG0, ?_, hno, Dfs.start, _, 0, I4, D4, ?_⟩, fun j hj => by rw [List.take_zero] at hj; cases hj⟩
  ·subst hO; exact ⟨⟨rfl⟩, ⟨rfl⟩, ⟨rfl⟩, ⟨rfl⟩, ⟨rfl⟩⟩
  ·show 0 + (keys.filter _).length ≤ _
   rw [Nat.zero_add]; exact List.length_filter_le ..
 ·intro i g h m₁ news₁ F₁ N₁ hj
  rw [hJ, hP0] at hj
  refine oEEA (hj) fun fin S ob1 _ => ?_
  try clear hj
  obtain ⟨_, _, hn, _⟩ := ob1
  exact hat N₁ hn
 ·intro i k x v g m₁ news₁ h₁ tk₁ I' it hkx hkv hj hne F₁ N₁
  dsimp only [envOf] at F₁ N₁
  refine hJo _ _ _ _ hj _ fun fin S hp hall => ?_
  clear hj
  rw [hP0] at hp
  refine oAAAAEEAA (hp) fun hG hNm hn hdfs rest' n Ii Di hnu => ?_
  try clear hp
  refine ex1 (intKey hkv) fun tv er2 => ?_
  subst er2
  clear kF kN c1 c2 c3 c4 I1 I2 I3 I4 D4 hS hdS hso hom hno bB X' T' bD hG0
  obtain ⟨q1, q2, q3, q4, q5⟩ := hNm
  have bB := hG.below
  have bX := hG.kin
  have bT := hG.top
  have bD := hG.dicts
  have I5 := Ii.cons (o := it) hne
  refine oEA (Di.seen) fun so hso hsoS => ?_
  have hsn : (O.e, so) ∈ (I', it) :: news₁ := .tail _ (Ii.rst _ hso).1
  have U5 := I5.uniq
  have hn20 : n < 1000 := by omega
  have hki : keys[i]? = some k := by
   rw [List.getElem?_map] at hkx
   cases hq : keys[i]? with
   | none => rw [hq] at hkx; cases hkx
   | some j => rw [hq] at hkx; cases hkx; rfl
  have hkk : k ∈ keys := List.mem_of_getElem? hki
  repeat' first | (k_unfold; (try dsimp only)) | ((fail_if_success (with_reducible first | refine WG ?_ | refine FG ?_)); (fail_if_success first | ((have _ := (by with_reducible assumption : Stopper3)); with_reducible show wpAny _ _ (execs _ _) _ _ _) | ((have _ := (by with_reducible assumption : Stopper5)); with_reducible show wpAny _ _ (delItem _ _) _ _ _) | ((have _ := (by with_reducible assumption : Stopper4)); with_reducible show wpAny _ _ (noteFrame _ _) _ _ _) | ((have _ := (by with_reducible assumption : Stopper2)); with_reducible show wpAny _ _ (subscriptTail _ _ (Value.ref _) (Value.ref _)) _ _ _) | ((have _ := (by with_reducible assumption : Stopper)); with_reducible show wpAny _ _ (exec (Stmt.If _ _ _ _) _) _ _ _)); first | ((with_reducible show wpAny _ _ (eval (Expr.Name _ _) _) _ _ _); k_dflt refine' ld (by k_asm) (by first | exact Has.get (by with_reducible assumption) (by exact rfl) | exact rfl) ?_) | ((with_reducible refine execs_cons_gen ?_); intro _; (try dsimp only)) | ((with_reducible refine execs_nil_gen ?_); intro _; (try dsimp only)) | walk1 | (dsimp only; walk1))
  ·(with_reducible rename S _ = true => hSk)
   (with_reducible rename Fr _ _ _ _ => kF); (with_reducible rename News _ _ _ _ => kN)
   refine FPostG.cont kF kN hne ?_
   rw [hJ, hP0]
   refine ⟨fin, S, ⟨hG, ⟨⟨q1.out⟩, ⟨q2.out⟩, ⟨q3.out⟩, ⟨q4.out⟩, ⟨q5.out⟩⟩, hn, hdfs, rest', n, Ii, Di, hnu⟩, fun j hj => ?_⟩
   rcases (mem_take_succ hki j).mp hj with h | rfl
   ·exact hall j h
   ·exact hSk
  ·(with_reducible rename S _ = false => hSk)
   (with_reducible rename Fr _ _ _ _ => kF); (with_reducible rename News _ _ _ _ => kN)
   have D5 := Di.consOld (it := it) (fun p hp => hne p (Ii.rst p hp).1)
   have hrI : ∀ p ∈ rest, p.1 ≠ I' := fun p hp => hne p (Ii.rst p (Di.old p hp)).1
   have hp1 : P0 ((I', it) :: rest) [] fin S g (fun y => if y = Str.ofString "node" then some (Value.int k tv) else m₁ y) ((I', it) :: news₁) := by
    rw [hP0]
    exact ⟨hG, ⟨⟨q1.out⟩, ⟨q2.out⟩, ⟨q3.out⟩, ⟨q4.out⟩, ⟨q5.out⟩⟩, .tail _ hn, hdfs, _, n, I5, D5, hnu⟩
   refine letX4_5_8io (fun n1 g m₂ news₂ => ∃ fr fin S c tc, P0 ((I', it) :: rest) fr fin S g m₂ news₂ ∧ Has m₂ (Str.ofString "node") (.int c tc) ∧ BelowT succ fin c (fp fr) ∧ c ∈ keys ∧ (fr = [] → S c = false) ∧ (∀ j ∈ keys.take i, S j = true) ∧ (S k = true ∨ c = k) ∧ n1 = fuel keys succ S (fp fr) : Nat → Heap → FMap → Ledger → Prop) (fun _ _ _ _ => .rfl) fun J1 hJ1i hJ1o => ?_
   refine While_genG (s := ⟨_, _, _, _, _⟩) (n₀ := fuel keys succ S (fp [])) J1 kF kN ?_ ?_
   ·exact hJ1i _ _ _ _ ([]) (fin) (S) (k) (tv) (hp1) (⟨rfl⟩) (trivial) (hkk) (fun _ => hSk) (hall) (.inr rfl) (rfl)
   ·intro n1 g1 m₂ news₂ h₂ tk₂ F₂ N₂ hj
    clear kF kN hp1 D5 I5 hsn U5 hso hsoS so q1 q2 q3 q4 q5 bB bX bT bD hG hdfs Di Ii hn hall hSk
    refine hJ1o _ _ _ _ hj _ fun fr fin S c tc hp m1 hb hck hfr hall hSk ej1 => ?_
    clear hj
    subst ej1
    rw [hP0] at hp
    refine oAAAAEEAA (hp) fun hG ob3 hn hdfs rest' n Ii Di hnu => ?_
    try clear hp
    obtain ⟨q1, q2, q3, q4, q5⟩ := ob3
    have hfl : fr.length ≤ 20 := by
     have := nodup_len hdfs.nodup (m := keys) (fun x hx => by obtain ⟨y, hy, rfl⟩ := List.mem_map.mp hx; exact hdfs.keysOK y hy)
     simp only [List.length_map] at this; omega
    have bB := hG.below
    have bX := hG.kin
    have bT := hG.top
    have bD := hG.dicts
    refine oEA (Di.seen) fun so hso hsoS => ?_
    have hsn := (Ii.rst _ hso).1
    have U5 := Ii.uniq
    have hn20 : n < 1000 := by omega
    have stp : Stopper := trivial
    repeat' first | (k_unfold; (try dsimp only)) | ((fail_if_success (with_reducible first | refine WG ?_ | refine FG ?_)); (fail_if_success first | ((have _ := (by with_reducible assumption : Stopper3)); with_reducible show wpAny _ _ (execs _ _) _ _ _) | ((have _ := (by with_reducible assumption : Stopper5)); with_reducible show wpAny _ _ (delItem _ _) _ _ _) | ((have _ := (by with_reducible assumption : Stopper4)); with_reducible show wpAny _ _ (noteFrame _ _) _ _ _) | ((have _ := (by with_reducible assumption : Stopper2)); with_reducible show wpAny _ _ (subscriptTail _ _ (Value.ref _) (Value.ref _)) _ _ _) | ((have _ := (by with_reducible assumption : Stopper)); with_reducible show wpAny _ _ (exec (Stmt.If _ _ _ _) _) _ _ _)); first | ((with_reducible refine execs_cons_gen ?_); intro _; (try dsimp only)) | walk1 | (dsimp only; walk1))
    clear stp
    (with_reducible rename Fr _ _ _ _ => kF); (with_reducible rename News _ _ _ _ => kN)
    refine letJ4 (fun n2 g m₃ news₃ => ∃ fr' fin' S', P0 ((I', it) :: rest) fr' fin' S' g m₃ news₃ ∧ PathT succ fin' (fp fr') ∧ (∀ j ∈ keys.take i, S' j = true) ∧ S' k = true ∧ n2 = fuel keys succ S' (fp fr') ∧ n2 ≤ fuel keys succ S (fp fr) : Nat → Heap → FMap → Ledger → Prop) fun P2 hP2 => ?_
    refine If_joinG (s := ⟨_, _, _, _, _⟩) (L := L') (fun g m₃ news₃ => ∃ n2, P2 n2 g m₃ news₃) ?_ ?_
    ·repeat' first | (k_unfold; (try dsimp only)) | ((fail_if_success (with_reducible first | refine WG ?_ | refine FG ?_)); (fail_if_success first | ((have _ := (by with_reducible assumption : Stopper3)); with_reducible show wpAny _ _ (execs _ _) _ _ _) | ((have _ := (by with_reducible assumption : Stopper5)); with_reducible show wpAny _ _ (delItem _ _) _ _ _) | ((have _ := (by with_reducible assumption : Stopper4)); with_reducible show wpAny _ _ (noteFrame _ _) _ _ _) | ((have _ := (by with_reducible assumption : Stopper2)); with_reducible show wpAny _ _ (subscriptTail _ _ (Value.ref _) (Value.ref _)) _ _ _) | ((have _ := (by with_reducible assumption : Stopper)); with_reducible show wpAny _ _ (exec (Stmt.If _ _ _ _) _) _ _ _)); first | ((with_reducible show wpAny _ _ (eval (Expr.Name _ _) _) _ _ _); k_dflt refine' ld (by k_asm) (by first | exact Has.get (by with_reducible assumption) (by exact rfl) | exact rfl) ?_) | ((with_reducible refine execs_cons_gen ?_); intro _; (try dsimp only)) | walk1 | (dsimp only; walk1))
     ·(with_reducible rename S _ = true => hSc)
      (with_reducible rename Fr _ _ _ _ => kF); (with_reducible rename News _ _ _ _ => kN)
      refine oEEAAA (Di.n2s) fun om kvs hm hom hk1 hk2 => ?_
      have hmn := (Ii.rst _ hm).1
      have hany : (valueAt kvs c).isSome = decide (c ∈ fr.map (·.nd)) := by
       rw [valueAt_isSome_eq_any]
       have : (kvs.any fun kv => decide (kv.1 = c)) = decide (c ∈ kvs.map (·.1)) := by
        rw [Bool.eq_iff_iff]; simp
       rw [this, hk1]; simp
      by_cases hc : c ∈ fr.map (·.nd)
      ·rw [decide_eq_true hc] at hany
       refine kda_in (knd := intKind _ _) kN hmn hom Di.nm (intKind_is _ _ _ _) true hany ?_
       refine ex1 (Option.isSome_iff_exists.mp hany) fun v hva => ?_
       obtain ⟨idx, ti, rfl⟩ : ∃ (i : Nat) (t : Tok), v = .int i t := by
        unfold valueAt at hva
        refine oEA (Option.map_eq_some_iff.mp hva) fun kv hkv er4 => ?_
        subst er4
        exact hk2 kv (List.mem_of_find?_eq_some hkv)
       refine oEEA (Di.stk) fun vs es' hvs hvI => ?_
       have hvn := (Ii.rst _ hvs).1
       have stp : Stopper2 := trivial
       repeat' first | (k_unfold; (try dsimp only)) | ((fail_if_success (with_reducible first | refine WG ?_ | refine FG ?_)); (fail_if_success first | ((have _ := (by with_reducible assumption : Stopper3)); with_reducible show wpAny _ _ (execs _ _) _ _ _) | ((have _ := (by with_reducible assumption : Stopper5)); with_reducible show wpAny _ _ (delItem _ _) _ _ _) | ((have _ := (by with_reducible assumption : Stopper4)); with_reducible show wpAny _ _ (noteFrame _ _) _ _ _) | ((have _ := (by with_reducible assumption : Stopper2)); with_reducible show wpAny _ _ (subscriptTail _ _ (Value.ref _) (Value.ref _)) _ _ _) | ((have _ := (by with_reducible assumption : Stopper)); with_reducible show wpAny _ _ (exec (Stmt.If _ _ _ _) _) _ _ _)); first | ((with_reducible show wpAny _ _ (subscriptTail _ _ (Value.ref _) (Value.int _ _)) _ _ _); k_dflt (refine' kda_item (knd := intKind _ _) (by k_asm) (by k_mem) (by with_reducible assumption) (intKind_is _ _ _ _) (by with_reducible assumption) ?_)) | ((with_reducible show wpAny _ _ (eval (Expr.Name _ _) _) _ _ _); k_dflt refine' ld (by k_asm) (by first | exact Has.get (by with_reducible assumption) (by exact rfl) | exact rfl) ?_) | ((with_reducible refine execs_cons_gen ?_); intro _; (try dsimp only)) | walk1 | (dsimp only; walk1))
       dsimp only
       refine kmk_slice_ints (s := ⟨h₂, _, _, _, _⟩) kF kN (News.isList kN hvn) (.int _ _) .none hvI (kmk_from hvI (Int.natCast_nonneg _)) rfl ?_ (by with_unfolding_all rfl) (by kmk_pure) (by rw [sizeLine_eq, List.size_toArray, hvI.length]; simp only [List.length_reverse, List.length_map]; omega)
       intro D1 ws h' F' N' l1 hI1 hc1 hl1
       clear kF kN
       repeat' first | (k_unfold; (try dsimp only)) | ((fail_if_success (with_reducible first | refine WG ?_ | refine FG ?_)); (fail_if_success first | ((have _ := (by with_reducible assumption : Stopper3)); with_reducible show wpAny _ _ (execs _ _) _ _ _) | ((have _ := (by with_reducible assumption : Stopper5)); with_reducible show wpAny _ _ (delItem _ _) _ _ _) | ((have _ := (by with_reducible assumption : Stopper4)); with_reducible show wpAny _ _ (noteFrame _ _) _ _ _) | ((have _ := (by with_reducible assumption : Stopper2)); with_reducible show wpAny _ _ (subscriptTail _ _ (Value.ref _) (Value.ref _)) _ _ _) | ((have _ := (by with_reducible assumption : Stopper)); with_reducible show wpAny _ _ (exec (Stmt.If _ _ _ _) _) _ _ _)); first | ((with_reducible show wpAny _ _ (eval (Expr.Name _ _) _) _ _ _); k_dflt refine' ld (by k_asm) (by first | exact Has.get (by with_reducible assumption) (by exact rfl) | exact rfl) ?_) | walk1 | (dsimp only; walk1))
       (with_reducible rename Fr _ _ _ _ => kF); (with_reducible rename News _ _ _ _ => kN)
       (with_reducible rename IntsAre _ (_ ++ [c]) => hI2)
       (with_reducible rename _ < _ ∧ _ < _ ∧ AllLt _ news₂ => l3)
       (with_reducible rename _ < _ ∧ AllLt _ news₂ => l2)
       have I6 := Ii.cons (o := listOf ws.toArray 0) (fun p hp => Nat.ne_of_lt (l1 p hp))
       have I7 := fun o => I6.cons (o := o) (List.forall_mem_cons.mpr ⟨Nat.ne_of_lt l2.1, fun p hp => Nat.ne_of_lt (allLt_mem l2.2 p hp)⟩)
       have I8 := fun o o' => (I7 o).cons (o := o') (List.forall_mem_cons.mpr ⟨Nat.ne_of_lt l3.1, List.forall_mem_cons.mpr ⟨Nat.ne_of_lt l3.2.1, fun p hp => Nat.ne_of_lt (allLt_mem l3.2.2 p hp)⟩⟩)
       refine WPostG.ret (FPostG.ret (leaveS_r kF kN hG.turn fun h₀' T' F' N' B' X' Tp' D' => ?_))
       refine hring h₀' _ _ _ _ _ _ _ ⟨T', B', X', Tp', D'⟩ F' N' (I8 _ _) (fun p hp => .tail _ (.tail _ (.tail _ (Di.old p (.tail _ hp))))) (.head _) ?_ ?_ (hdfs.ring hb (by rw [List.map_map]; exact hc))
       ·intro e; have := hI2.length; rw [e] at this; simp at this
       ·have := hI2.length; rw [this]; simp only [List.length_append, List.length_drop, List.length_reverse, List.length_map, List.length_cons, List.length_nil]; omega
      ·rw [decide_eq_false hc] at hany
       refine kda_in (knd := intKind _ _) kN hmn hom Di.nm (intKind_is _ _ _ _) false hany ?_
       repeat' first | (k_unfold; (try dsimp only)) | ((fail_if_success (with_reducible first | refine WG ?_ | refine FG ?_)); (fail_if_success first | ((have _ := (by with_reducible assumption : Stopper3)); with_reducible show wpAny _ _ (execs _ _) _ _ _) | ((have _ := (by with_reducible assumption : Stopper5)); with_reducible show wpAny _ _ (delItem _ _) _ _ _) | ((have _ := (by with_reducible assumption : Stopper4)); with_reducible show wpAny _ _ (noteFrame _ _) _ _ _) | ((have _ := (by with_reducible assumption : Stopper2)); with_reducible show wpAny _ _ (subscriptTail _ _ (Value.ref _) (Value.ref _)) _ _ _) | ((have _ := (by with_reducible assumption : Stopper)); with_reducible show wpAny _ _ (exec (Stmt.If _ _ _ _) _) _ _ _)); first | ((with_reducible refine execs_nil_gen ?_); intro _; (try dsimp only)) | walk1 | (dsimp only; walk1))
       have hcf : c ∈ fin := ((hdfs.seen c).mp hSc).resolve_left (fun h => hc (by rw [List.map_map] at h; exact h))
       refine CutG.mk kF kN ⟨fuel keys succ S (fp fr), ?_⟩
       rw [hP2, hP0]
       refine ⟨fr, fin, S, ⟨hG, ⟨q1, q2, q3, q4, q5⟩, hn, hdfs, rest', n, Ii, Di, hnu⟩, path_seen (fun e => ?_) hb hcf, hall, hSk.elim id (fun e => e ▸ hSc), rfl, Nat.le_refl _⟩
       have := hfr (List.map_eq_nil_iff.mp e)
       rw [this] at hSc; cases hSc
     ·(with_reducible rename S _ = false => hSc)
      (with_reducible rename Fr _ _ _ _ => kF); (with_reducible rename News _ _ _ _ => kN)
      (with_reducible rename Obj.SetObjOf (intKind _ _) _ _ _ => hso2)
      rename_i so2 _
      rw [if_neg (by rw [hSc]; exact Bool.false_ne_true)] at hso2
      refine an5 (Di.dist) fun e1 e2 e3 e4 e5 e6 => ?_
      have I6 := Ii.setRest (o' := so2) hso
      have nF : ∀ {p : Addr × Obj}, p ∈ rest' → Y.N2 ≠ p.1 := fun hp e => (Ii.rst _ hp).2 (e ▸ .inr (.inr (.inl rfl)))
      have hn6 := mem_set_ne (o' := so2) hn (nF hso)
      have hk6 : ∀ p ∈ rest', p.1 ∈ (setL news₂ O.e so2).map (·.1) := fun p hp => by rw [keys_set]; exact List.mem_map_of_mem (Ii.rst p hp).1
      refine ex1 (Di.its) fun et hits => ?_
      refine oEEAAA (Di.n2s) fun om kvs hm hom hk1 hk2 => ?_
      refine oEEA (Di.stk) fun vs es' hvs hvI => ?_
      have r1 : (O.t, listOf ((fr.map fun x => Value.ref x.wr).reverse).toArray et) ∈ setL rest' O.e so2 := mem_set_ne hits e4
      have r2 : (O.m, om) ∈ setL rest' O.e so2 := mem_set_ne hm e6.symm
      have r3 : (O.s, listOf vs.toArray es') ∈ setL rest' O.e so2 := mem_set_ne hvs e2
      generalize setL news₂ O.e so2 = news6 at kN I6 hn6 hk6
      have t1 := (I6.rst _ r1).1
      have t2 := (I6.rst _ r2).1
      have t3 := (I6.rst _ r3).1
      have hva := valueAt_key (Y := Y) hck
      refine ex2 (I6.info c hck) fun ti tn hi => ?_
      have hdi := (I6.dinf c hck).1
      refine oEA (I6.n2) fun oN hoN hdN => ?_
      refine oEEA (I6.suc c hck) fun us eu hus husI => ?_
      have hnm2 := I6.nm
      have U6 := I6.uniq
      clear hsn U5 hn
      have st3 : Stopper3 := trivial
      repeat' first | (k_unfold; (try dsimp only)) | ((fail_if_success (with_reducible first | refine WG ?_ | refine FG ?_)); (fail_if_success first | ((have _ := (by with_reducible assumption : Stopper3)); with_reducible show wpAny _ _ (execs _ _) _ _ _) | ((have _ := (by with_reducible assumption : Stopper5)); with_reducible show wpAny _ _ (delItem _ _) _ _ _) | ((have _ := (by with_reducible assumption : Stopper4)); with_reducible show wpAny _ _ (noteFrame _ _) _ _ _) | ((have _ := (by with_reducible assumption : Stopper2)); with_reducible show wpAny _ _ (subscriptTail _ _ (Value.ref _) (Value.ref _)) _ _ _) | ((have _ := (by with_reducible assumption : Stopper)); with_reducible show wpAny _ _ (exec (Stmt.If _ _ _ _) _) _ _ _)); first | ((with_reducible show wpAny _ _ (getAttr (Value.ref _) (Str.ofString "__next__") true) _ _ _); k_dflt (refine' nextAttrK (by k_asm) (by k_asm) (by exact .head _) ?_); intro _ _ _ _ _; (try dsimp only)) | ((with_reducible show wpAny _ _ (call (Value.builtin "iter") _) _ _ _); (k_dflt (refine' iterK (by k_asm) (by k_asm) (by k_mem) ?_); intro _ _ _ _ _; (try dsimp only))) | ((with_reducible show wpAny _ _ (subscriptTail _ _ (Value.ref _) (Value.int _ _)) _ _ _); k_dflt (refine' kda_item (knd := intKind _ _) (by k_asm) (by k_mem) (by with_reducible assumption) (intKind_is _ _ _ _) (by with_reducible assumption) ?_)) | ((with_reducible show wpAny _ _ (eval (Expr.Name _ _) _) _ _ _); k_dflt refine' ld (by k_asm) (by first | exact Has.get (by with_reducible assumption) (by exact rfl) | exact rfl) ?_) | walk1 | (dsimp only; walk1))
      (with_reducible rename Fr _ _ _ _ => kF); (with_reducible rename News _ _ _ _ => kN)
      (with_reducible rename ∀ p ∈ _ :: news6, p.1 < _ => l8)
      (with_reducible rename ∀ p ∈ news6, p.1 < _ => l7)
      rename_i I9 _ _ _ W9 _
      have I7 := I6.cons (o := liObj (Y.sa c) 0) (fun p hp => Nat.ne_of_lt (l7 p hp))
      have I8 := I7.cons (o := wrObj I9) (fun p hp => Nat.ne_of_lt (l8 p hp))
      have hn8 : (Y.N2, o) ∈ (W9, wrObj I9) :: (I9, liObj (Y.sa c) 0) :: news6 := .tail _ (.tail _ hn6)
      have r1' : (O.t, listOf ((fr.map fun x => Value.ref x.wr).reverse).toArray et) ∈ (W9, wrObj I9) :: (I9, liObj (Y.sa c) 0) :: setL rest' O.e so2 := .tail _ (.tail _ r1)
      have r2' : (O.m, om) ∈ (W9, wrObj I9) :: (I9, liObj (Y.sa c) 0) :: setL rest' O.e so2 := .tail _ (.tail _ r2)
      have r3' : (O.s, listOf vs.toArray es') ∈ (W9, wrObj I9) :: (I9, liObj (Y.sa c) 0) :: setL rest' O.e so2 := .tail _ (.tail _ r3)
      generalize (W9, wrObj I9) :: (I9, liObj (Y.sa c) 0) :: news6 = news8 at kN I8 hn8
      have hul : ((fr.map fun x => Value.ref x.wr).reverse).toArray.size ≤ sizeLine := by rw [sizeLine_eq, List.size_toArray, List.length_reverse, List.length_map]; omega
      clear t1 t2 t3 hi hdi hoN hdN hus U6
      have t1 := (I8.rst _ r1').1
      have U8 := I8.uniq
      repeat' first | (k_unfold; (try dsimp only)) | ((fail_if_success (with_reducible first | refine WG ?_ | refine FG ?_)); (fail_if_success first | ((have _ := (by with_reducible assumption : Stopper3)); with_reducible show wpAny _ _ (execs _ _) _ _ _) | ((have _ := (by with_reducible assumption : Stopper5)); with_reducible show wpAny _ _ (delItem _ _) _ _ _) | ((have _ := (by with_reducible assumption : Stopper4)); with_reducible show wpAny _ _ (noteFrame _ _) _ _ _) | ((have _ := (by with_reducible assumption : Stopper2)); with_reducible show wpAny _ _ (subscriptTail _ _ (Value.ref _) (Value.ref _)) _ _ _) | ((have _ := (by with_reducible assumption : Stopper)); with_reducible show wpAny _ _ (exec (Stmt.If _ _ _ _) _) _ _ _)); first | walk1 | (dsimp only; walk1))
      (with_reducible rename Fr _ _ _ _ => kF); (with_reducible rename News _ _ _ _ => kN)
      rw [List.push_toArray] at kN
      have I10 := I8.setRest (o' := listOf ((fr.map fun x => Value.ref x.wr).reverse ++ [Value.ref W9]).toArray (et + 1)) r1'
      have r4 := mem_set_ne (o' := listOf ((fr.map fun x => Value.ref x.wr).reverse ++ [Value.ref W9]).toArray (et + 1)) r2' e5.symm
      have r5 := mem_set_ne (o' := listOf ((fr.map fun x => Value.ref x.wr).reverse ++ [Value.ref W9]).toArray (et + 1)) r3' e1
      have hn9 := mem_set_ne (o' := listOf ((fr.map fun x => Value.ref x.wr).reverse ++ [Value.ref W9]).toArray (et + 1)) hn8 (nF hits)
      generalize setL news8 O.t (listOf ((fr.map fun x => Value.ref x.wr).reverse ++ [Value.ref W9]).toArray (et + 1)) = news9 at kN I10 hn9
      clear t1 U8 hul
      have t2 := (I10.rst _ r4).1
      have t3 := (I10.rst _ r5).1
      have U9 := I10.uniq
      have hkl : kvs.length = fr.length := by have := congrArg List.length hk1; simpa using this
      have hul2 : kvs.length ≤ sizeLine := by rw [sizeLine_eq]; omega
      have hvl : vs.length = fr.length := by have := hvI.length; simpa using this
      first | ((with_reducible refine execs_cons_gen ?_); intro _; (try dsimp only)) | walk1
      repeat' first | (k_unfold; (try dsimp only)) | ((fail_if_success (with_reducible first | refine WG ?_ | refine FG ?_)); (fail_if_success first | ((have _ := (by with_reducible assumption : Stopper3)); with_reducible show wpAny _ _ (execs _ _) _ _ _) | ((have _ := (by with_reducible assumption : Stopper5)); with_reducible show wpAny _ _ (delItem _ _) _ _ _) | ((have _ := (by with_reducible assumption : Stopper4)); with_reducible show wpAny _ _ (noteFrame _ _) _ _ _) | ((have _ := (by with_reducible assumption : Stopper2)); with_reducible show wpAny _ _ (subscriptTail _ _ (Value.ref _) (Value.ref _)) _ _ _) | ((have _ := (by with_reducible assumption : Stopper)); with_reducible show wpAny _ _ (exec (Stmt.If _ _ _ _) _) _ _ _)); first | ((with_reducible show wpAny _ _ (call (Value.builtin "len") [Value.ref _]) _ _ _); k_dflt (refine' len_listK (by k_asm) (by k_mem) (by with_reducible assumption) (by omega) ?_)) | ((with_reducible show wpAny _ _ (setItem (Value.ref _) (Value.int _ _) _) _ _ _); k_dflt (refine' kda_set (knd := intKind _ _) (by k_asm) (by k_asm) (by k_updF) (by with_reducible assumption) (intKind_is _ _ _ _) (by with_reducible assumption) ?_); intro _ _ _ zzN' _; (try dsimp only at zzN'); (try k_sweep)) | ((with_reducible show wpAny _ _ (eval (Expr.Name _ _) _) _ _ _); k_dflt refine' ld (by k_asm) (by first | exact Has.get (by with_reducible assumption) (by exact rfl) | exact rfl) ?_) | walk1 | (dsimp only; walk1))
      (with_reducible rename Fr _ _ _ _ => kF); (with_reducible rename News _ _ _ _ => kN)
      (with_reducible rename Obj.IsDictOf (intKind _ _) _ (stored _ _ _) => hom2)
      rename_i om2
      have hcn : c ∉ kvs.map (·.1) := fun h => by
       rw [hk1, List.mem_reverse] at h
       have := (hdfs.seen c).mpr (.inl (by rw [List.map_map]; exact h))
       rw [this] at hSc; cases hSc
      rw [stored_end hcn] at hom2
      have I11 := I10.setRest (o' := om2) r4
      have r6 := mem_set_ne (o' := om2) r5 e3
      have hn10 := mem_set_ne (o' := om2) hn9 (nF hm)
      generalize setL news9 O.m om2 = news10 at kN I11 hn10
      clear t2 t3 U9
      have t3 := (I11.rst _ r6).1
      have U10 := I11.uniq
      have hul3 : vs.toArray.size ≤ sizeLine := by rw [sizeLine_eq, List.size_toArray]; omega
      first | ((with_reducible refine execs_cons_gen ?_); intro _; (try dsimp only)) | walk1
      repeat' first | (k_unfold; (try dsimp only)) | ((fail_if_success (with_reducible first | refine WG ?_ | refine FG ?_)); (fail_if_success first | ((have _ := (by with_reducible assumption : Stopper3)); with_reducible show wpAny _ _ (execs _ _) _ _ _) | ((have _ := (by with_reducible assumption : Stopper5)); with_reducible show wpAny _ _ (delItem _ _) _ _ _) | ((have _ := (by with_reducible assumption : Stopper4)); with_reducible show wpAny _ _ (noteFrame _ _) _ _ _) | ((have _ := (by with_reducible assumption : Stopper2)); with_reducible show wpAny _ _ (subscriptTail _ _ (Value.ref _) (Value.ref _)) _ _ _) | ((have _ := (by with_reducible assumption : Stopper)); with_reducible show wpAny _ _ (exec (Stmt.If _ _ _ _) _) _ _ _)); first | ((with_reducible show wpAny _ _ (eval (Expr.Name _ _) _) _ _ _); k_dflt refine' ld (by k_asm) (by first | exact Has.get (by with_reducible assumption) (by exact rfl) | exact rfl) ?_) | walk1 | (dsimp only; walk1))
      clear st3
      repeat' first | (k_unfold; (try dsimp only)) | ((fail_if_success (with_reducible first | refine WG ?_ | refine FG ?_)); (fail_if_success first | ((have _ := (by with_reducible assumption : Stopper3)); with_reducible show wpAny _ _ (execs _ _) _ _ _) | ((have _ := (by with_reducible assumption : Stopper5)); with_reducible show wpAny _ _ (delItem _ _) _ _ _) | ((have _ := (by with_reducible assumption : Stopper4)); with_reducible show wpAny _ _ (noteFrame _ _) _ _ _) | ((have _ := (by with_reducible assumption : Stopper2)); with_reducible show wpAny _ _ (subscriptTail _ _ (Value.ref _) (Value.ref _)) _ _ _) | ((have _ := (by with_reducible assumption : Stopper)); with_reducible show wpAny _ _ (exec (Stmt.If _ _ _ _) _) _ _ _)); first | ((with_reducible refine execs_nil_gen ?_); intro _; (try dsimp only)) | walk1 | (dsimp only; walk1))
      (with_reducible rename Fr _ _ _ _ => kF); (with_reducible rename News _ _ _ _ => kN)
      rw [List.push_toArray] at kN
      have I12 := I11.setRest (o' := listOf (vs ++ [Value.int c tc]).toArray (es' + 1)) r6
      have hn11 := mem_set_ne (o' := listOf (vs ++ [Value.int c tc]).toArray (es' + 1)) hn10 (nF hvs)
      refine CutG.mk kF kN ⟨fuel keys succ (fun k => S k || decide (k = c)) (fp (⟨c, I9, W9, 0⟩ :: fr)), ?_⟩
      rw [hP2, hP0]
      have ne6 : ∀ {x : Addr}, (∀ p ∈ news6, p.1 < x) → ∀ p ∈ rest', p.1 ≠ x := fun h p hp => by
       refine oEA (List.mem_map.mp (hk6 p hp)) fun q hq e => ?_
       exact e ▸ Nat.ne_of_lt (h q hq)
      refine ⟨⟨c, I9, W9, 0⟩ :: fr, fin, _, ⟨hG, ⟨⟨q1.out⟩, ⟨q2.out⟩, ⟨q3.out⟩, ⟨q4.out⟩, ⟨q5.out⟩⟩, hn11, hdfs.push hck hSc, _, n + 1, I12, Di.push (ne6 l7) (ne6 fun p hp => l8 p (.tail _ hp)) (Nat.ne_of_lt (l8 _ (.head _))) hso2 (intsAre_push hvI) hom2 ?_ ?_, ?_⟩, path_push hb, fun j hj => ?_, ?_, rfl, Nat.le_of_lt (fuel_push hck hSc (hsl c hck))⟩
      ·rw [List.map_append, hk1]; rfl
      ·intro kv hkv
       rcases List.mem_append.mp hkv with h | h
       ·exact hk2 kv h
       ·rw [List.mem_singleton.mp h]
        exact ⟨_, _, rfl⟩
      ·refine Nat.le_trans ?_ hnu
       have h9 := unseen_lt hck hSc
       rw [Nat.add_assoc, Nat.add_comm 1]
       exact Nat.add_le_add_left h9 n
      ·rw [hall j hj]; rfl
      ·rcases hSk with h | h
       ·rw [h]; rfl
       ·simp [h]
    ·intro g2 m₃ news₃ h₃ tk₃ F₃ N₃ hp
     obtain ⟨n2, hp⟩ := hp
     clear kF kN hsn U5 hso hsoS so q1 q2 q3 q4 q5 bB bX bT bD hG hdfs Di Ii hn m1 hb hck hfr hnu hn20 hfl
     first | ((with_reducible refine execs_cons_gen ?_); intro _; (try dsimp only)) | walk1
     refine While_genG (s := ⟨_, _, _, _, _⟩) (n₀ := n2) P2 F₃ N₃ hp ?_
     intro n3 g3 m₄ news₄ h₄ tk₄ F₄ N₄ hp
     clear F₃ N₃
     rw [hP2, hP0] at hp
     refine oEEEAAAAA (hp) fun fr' fin' S' ob5 hpt hall' hSk' hn3 hle => ?_
     try clear hp
     obtain ⟨hG, ⟨q1, q2, q3, q4, q5⟩, hn, hdfs, rest', n, Ii, Di, hnu⟩ := ob5
     have bB := hG.below
     have bX := hG.kin
     have bT := hG.top
     have bD := hG.dicts
     refine oEEA (Di.stk) fun vs es' hvs hvI => ?_
     have hvn := (Ii.rst _ hvs).1
     repeat' first | (k_unfold; (try dsimp only)) | ((fail_if_success (with_reducible first | refine WG ?_ | refine FG ?_)); (fail_if_success first | ((have _ := (by with_reducible assumption : Stopper3)); with_reducible show wpAny _ _ (execs _ _) _ _ _) | ((have _ := (by with_reducible assumption : Stopper5)); with_reducible show wpAny _ _ (delItem _ _) _ _ _) | ((have _ := (by with_reducible assumption : Stopper4)); with_reducible show wpAny _ _ (noteFrame _ _) _ _ _) | ((have _ := (by with_reducible assumption : Stopper2)); with_reducible show wpAny _ _ (subscriptTail _ _ (Value.ref _) (Value.ref _)) _ _ _) | ((have _ := (by with_reducible assumption : Stopper)); with_reducible show wpAny _ _ (exec (Stmt.If _ _ _ _) _) _ _ _)); first | ((with_reducible show wpAny _ _ (eval (Expr.Name _ _) _) _ _ _); k_dflt refine' ld (by k_asm) (by first | exact Has.get (by with_reducible assumption) (by exact rfl) | exact rfl) ?_) | walk1 | (dsimp only; walk1))
     (with_reducible rename Fr _ _ _ _ => kF); (with_reducible rename News _ _ _ _ => kN)
     rcases fr' with _ | ⟨x, r⟩
     ·have hv0 : vs = [] := by cases hvI; rfl
      subst hv0
      refine truthy_nilK kN hvn ?_
      repeat' first | (k_unfold; (try dsimp only)) | ((fail_if_success (with_reducible first | refine WG ?_ | refine FG ?_)); (fail_if_success first | ((have _ := (by with_reducible assumption : Stopper3)); with_reducible show wpAny _ _ (execs _ _) _ _ _) | ((have _ := (by with_reducible assumption : Stopper5)); with_reducible show wpAny _ _ (delItem _ _) _ _ _) | ((have _ := (by with_reducible assumption : Stopper4)); with_reducible show wpAny _ _ (noteFrame _ _) _ _ _) | ((have _ := (by with_reducible assumption : Stopper2)); with_reducible show wpAny _ _ (subscriptTail _ _ (Value.ref _) (Value.ref _)) _ _ _) | ((have _ := (by with_reducible assumption : Stopper)); with_reducible show wpAny _ _ (exec (Stmt.If _ _ _ _) _) _ _ _)); first | ((with_reducible refine execs_cons_gen ?_); intro _; (try dsimp only)) | walk1 | (dsimp only; walk1))
      refine WPostG.brk ?_
      dsimp only
      repeat' first | (k_unfold; (try dsimp only)) | ((fail_if_success (with_reducible first | refine WG ?_ | refine FG ?_)); (fail_if_success first | ((have _ := (by with_reducible assumption : Stopper3)); with_reducible show wpAny _ _ (execs _ _) _ _ _) | ((have _ := (by with_reducible assumption : Stopper5)); with_reducible show wpAny _ _ (delItem _ _) _ _ _) | ((have _ := (by with_reducible assumption : Stopper4)); with_reducible show wpAny _ _ (noteFrame _ _) _ _ _) | ((have _ := (by with_reducible assumption : Stopper2)); with_reducible show wpAny _ _ (subscriptTail _ _ (Value.ref _) (Value.ref _)) _ _ _) | ((have _ := (by with_reducible assumption : Stopper)); with_reducible show wpAny _ _ (exec (Stmt.If _ _ _ _) _) _ _ _)); first | ((with_reducible refine execs_nil_gen ?_); intro _; (try dsimp only)) | walk1 | (dsimp only; walk1))
      (with_reducible rename Fr _ _ _ _ => kF); (with_reducible rename News _ _ _ _ => kN)
      have I7 := Ii.sub (rest' := (I', it) :: dropA rest' I') (fun p hp => by
       rcases List.mem_cons.mp hp with rfl | hp
       ·exact Di.old _ (.head _)
       ·exact (List.mem_filter.mp hp).1)
      have hI' := (I7.rst _ (.head _)).2
      refine FPostG.next kF (news_drop kN (I7.rst _ (.head _)).1) dropA_ne ?_
      rw [hJ, hP0]
      refine ⟨fin', S', ⟨hG, ⟨⟨q1.out⟩, ⟨q2.out⟩, ⟨q3.out⟩, ⟨q4.out⟩, ⟨q5.out⟩⟩, mem_drop hn (fun e => hI' (e ▸ .inr (.inr (.inl rfl)))), hdfs, _, n, I7.drop dropA_ne, Di.dropOld hrI, hnu⟩, fun j hj => ?_⟩
      rcases (mem_take_succ hki j).mp hj with h | rfl
      ·exact hall' j h
      ·exact hSk'
     ·rw [List.map_cons, List.reverse_cons] at hvI
      refine oEEA (intsAre_last hvI) fun vs' tx er6 hvI' => ?_
      subst er6
      have hxk : x.nd ∈ keys := hdfs.keysOK (x.nd, x.p) (.head _)
      have hnd : ∀ y ∈ r, y.nd ≠ x.nd := fun y hy e => (List.nodup_cons.mp hdfs.nodup).1 (by rw [List.map_map]; exact List.mem_map.mpr ⟨y, hy, e⟩)
      have hrl : r.length ≤ 20 := by
       have := nodup_len hdfs.nodup (m := keys) (fun x hx => by obtain ⟨y, hy, rfl⟩ := List.mem_map.mp hx; exact hdfs.keysOK y hy)
       simp only [List.length_map, List.length_cons] at this; omega
      have hvl : vs'.length = r.length := by have := hvI'.length; simpa using this
      have hvl' : vs'.length ≤ 1000 := by omega
      refine ex1 (Di.its) fun et hits => ?_
      rw [List.map_cons, List.reverse_cons] at hits
      have hin := (Ii.rst _ hits).1
      refine an1 (Di.ob x (.head _)) fun hw0 hp0 => ?_
      have hw1 := (Ii.rst _ hw0).1
      have hp1 := (Ii.rst _ hp0).1
      refine oEEA (Ii.suc x.nd hxk) fun us eu hus husI => ?_
      refine truthy_endK kN hvn hvl' ?_
      have st4 : Stopper4 := trivial
      rcases hux : us[x.p]? with _ | v
      ·repeat' first | (k_unfold; (try dsimp only)) | ((fail_if_success (with_reducible first | refine WG ?_ | refine FG ?_)); (fail_if_success first | ((have _ := (by with_reducible assumption : Stopper3)); with_reducible show wpAny _ _ (execs _ _) _ _ _) | ((have _ := (by with_reducible assumption : Stopper5)); with_reducible show wpAny _ _ (delItem _ _) _ _ _) | ((have _ := (by with_reducible assumption : Stopper4)); with_reducible show wpAny _ _ (noteFrame _ _) _ _ _) | ((have _ := (by with_reducible assumption : Stopper2)); with_reducible show wpAny _ _ (subscriptTail _ _ (Value.ref _) (Value.ref _)) _ _ _) | ((have _ := (by with_reducible assumption : Stopper)); with_reducible show wpAny _ _ (exec (Stmt.If _ _ _ _) _) _ _ _)); first | ((with_reducible show wpAny _ _ (callWith _ (Value.ref _) [] (backTo _ (starEach [] _)) []) _ _ _); k_dflt (refine' callWith_wr (by k_asm) (by k_mem) ?_)) | ((with_reducible show wpAny _ _ (call (Value.ref _) _) _ _ _); (k_dflt (refine' nextEndK (by exact rfl) (by k_asm) (by k_asm) (by k_mem) (by k_mem) (by k_mem) (by with_reducible assumption) ?_); k_whole; intro _ _ _ _ _ _; (try dsimp only))) | ((with_reducible show wpAny _ _ (subscriptTail _ _ (Value.ref _) (Value.int (-1) _)) _ _ _); k_dflt (refine' item_lastK (by k_asm) (by k_mem) ?_ (by with_unfolding_all rfl))) | ((with_reducible show wpAny _ _ (eval (Expr.Name _ _) _) _ _ _); k_dflt refine' ld (by k_asm) (by first | exact Has.get (by with_reducible assumption) (by exact rfl) | exact rfl) ?_) | ((with_reducible refine execs_cons_gen ?_); intro _; (try dsimp only)) | walk1 | (dsimp only; walk1))
       (with_reducible rename Fr _ _ _ _ => kF); (with_reducible rename News _ _ _ _ => kN)
       (with_reducible rename NewX _ _ _ _ => hX)
       clear st4
       refine caught_new0 (g₀ := g') hX kF kN bB XB TB bD hG.turn (by k_is) PyProof.Rows.Boot.«StopIteration» (by decide) stop_isExc stop_notTuple stop_sub ?_
       intro h5 g5 T5 F5 N5 B5 X5 P5 D5
       have hG5 : Grd w mean mg mb (ktrTop dp un gd cn cs L a ccd cl outer) base (envX cn cs L a ccd cl :: outer) g' g5 := ⟨T5, B5, X5, P5, D5⟩
       have nF : ∀ {p : Addr × Obj}, p ∈ rest' → Y.N2 ≠ p.1 := fun hp e => (Ii.rst _ hp).2 (e ▸ .inr (.inr (.inl rfl)))
       have o1 := (Di.obne x (.head _)).1
       refine an5 (Di.dist) fun e1 e2 e3 e4 e5 e6 => ?_
       refine oEEAAA (Di.n2s) fun om kvs hm hom hk1 hk2 => ?_
       rw [List.map_cons, List.reverse_cons] at hk1
       have hxr : x.nd ∉ (r.map (·.nd)).reverse := fun h => by
        refine oEA (List.mem_map.mp (List.mem_reverse.mp h)) fun y hy e => ?_
        exact hnd y hy e
       have hc0 : (succ x.nd)[x.p]? = none := by
        rw [List.getElem?_eq_none_iff] at hux ⊢
        rw [← husI.length]; exact hux
       clear hG bB bX bT bD kF kN hX hvn hin hw1 hp1
       have I5 := Ii.setRest (o' := { cls := .type "list_iterator", data := .fields #[.none, .int x.p 0] }) hp0
       have r1 := mem_set_ne (o' := { cls := .type "list_iterator", data := .fields #[.none, .int x.p 0] }) hvs (ne_own o1 O.s_).symm
       have r2 := mem_set_ne (o' := { cls := .type "list_iterator", data := .fields #[.none, .int x.p 0] }) hm (ne_own o1 O.m_).symm
       have r3 := mem_set_ne (o' := { cls := .type "list_iterator", data := .fields #[.none, .int x.p 0] }) hits (ne_own o1 O.t_).symm
       have hn5 := mem_set_ne (o' := { cls := .type "list_iterator", data := .fields #[.none, .int x.p 0] }) hn (nF hp0)
       generalize setL news₄ x.it { cls := .type "list_iterator", data := .fields #[.none, .int x.p 0] } = news5 at N5 I5 hn5
       have t1 := (I5.rst _ r1).1
       have U5 := I5.uniq
       have st3 : Stopper5 := trivial
       first | ((with_reducible refine execs_cons_gen ?_); intro _; (try dsimp only)) | walk1
       repeat' first | (k_unfold; (try dsimp only)) | ((fail_if_success (with_reducible first | refine WG ?_ | refine FG ?_)); (fail_if_success first | ((have _ := (by with_reducible assumption : Stopper3)); with_reducible show wpAny _ _ (execs _ _) _ _ _) | ((have _ := (by with_reducible assumption : Stopper5)); with_reducible show wpAny _ _ (delItem _ _) _ _ _) | ((have _ := (by with_reducible assumption : Stopper4)); with_reducible show wpAny _ _ (noteFrame _ _) _ _ _) | ((have _ := (by with_reducible assumption : Stopper2)); with_reducible show wpAny _ _ (subscriptTail _ _ (Value.ref _) (Value.ref _)) _ _ _) | ((have _ := (by with_reducible assumption : Stopper)); with_reducible show wpAny _ _ (exec (Stmt.If _ _ _ _) _) _ _ _)); first | ((with_reducible show wpAny _ _ (call (Value.builtin "list.pop") _) _ _ _); (k_dflt (refine' pop_endK (by k_asm) (by k_asm) (by k_upd) (by omega) ?_); k_whole; intro _ _ _; (try dsimp only))) | ((with_reducible show wpAny _ _ (eval (Expr.Name _ _) _) _ _ _); k_dflt refine' ld (by k_asm) (by first | exact Has.get (by with_reducible assumption) (by exact rfl) | exact rfl) ?_) | walk1 | (dsimp only; walk1))
       (with_reducible rename Fr _ _ _ _ => kF); (with_reducible rename News _ _ _ _ => kN)
       have I6 := I5.setRest (o' := listOf vs'.toArray (es' + 1)) r1
       have r4 := mem_set_ne (o' := listOf vs'.toArray (es' + 1)) r2 e3.symm
       have r5 := mem_set_ne (o' := listOf vs'.toArray (es' + 1)) r3 e1.symm
       have hn6 := mem_set_ne (o' := listOf vs'.toArray (es' + 1)) hn5 (nF hvs)
       generalize setL news5 O.s (listOf vs'.toArray (es' + 1)) = news6 at kN I6 hn6
       clear t1 U5
       have hva : (valueAt kvs x.nd).isSome = true := by
        rw [valueAt_isSome_eq_any]
        have hmem : x.nd ∈ kvs.map (·.1) := by rw [hk1]; simp
        refine oEA (List.mem_map.mp hmem) fun kv h1 h2 => ?_
        exact List.any_eq_true.mpr ⟨kv, h1, by simpa using h2⟩
       have hkl : kvs.length = r.length + 1 := by have := congrArg List.length hk1; simpa using this
       refine kob_del (knd := intKind _ _) kF kN (updF_uniq I6.uniq (I6.rst _ r4).1) hom (intKind_is _ _ _ _) hva (by rw [sizeLine_eq]; omega) ?_
       intro h7 om2 F7 N7 hom2
       clear kF kN
       have I7 := I6.setRest (o' := om2) r4
       have r6 := mem_set_ne (o' := om2) r5 e5
       have hn7 := mem_set_ne (o' := om2) hn6 (nF hm)
       (try dsimp only at N7)
       generalize setL news6 O.m om2 = news7 at N7 I7 hn7
       have t3 := (I7.rst _ r6).1
       have U7 := I7.uniq
       have hrl2 : (r.map fun x => Value.ref x.wr).reverse.length ≤ 1000 := by simp only [List.length_reverse, List.length_map]; omega
       clear st3
       repeat' first | (k_unfold; (try dsimp only)) | ((fail_if_success (with_reducible first | refine WG ?_ | refine FG ?_)); (fail_if_success first | ((have _ := (by with_reducible assumption : Stopper3)); with_reducible show wpAny _ _ (execs _ _) _ _ _) | ((have _ := (by with_reducible assumption : Stopper5)); with_reducible show wpAny _ _ (delItem _ _) _ _ _) | ((have _ := (by with_reducible assumption : Stopper4)); with_reducible show wpAny _ _ (noteFrame _ _) _ _ _) | ((have _ := (by with_reducible assumption : Stopper2)); with_reducible show wpAny _ _ (subscriptTail _ _ (Value.ref _) (Value.ref _)) _ _ _) | ((have _ := (by with_reducible assumption : Stopper)); with_reducible show wpAny _ _ (exec (Stmt.If _ _ _ _) _) _ _ _)); first | ((with_reducible show wpAny _ _ (call (Value.builtin "list.pop") _) _ _ _); (k_dflt (refine' pop_endK (by k_asm) (by k_asm) (by k_upd) (by omega) ?_); k_whole; intro _ _ _; (try dsimp only))) | ((with_reducible show wpAny _ _ (eval (Expr.Name _ _) _) _ _ _); k_dflt refine' ld (by k_asm) (by first | exact Has.get (by with_reducible assumption) (by exact rfl) | exact rfl) ?_) | ((with_reducible refine execs_cons_gen ?_); intro _; (try dsimp only)) | ((with_reducible refine execs_nil_gen ?_); intro _; (try dsimp only)) | walk1 | (dsimp only; walk1))
       (with_reducible rename Fr _ _ _ _ => kF); (with_reducible rename News _ _ _ _ => kN)
       have I8 := I7.setRest (o' := listOf (r.map fun x => Value.ref x.wr).reverse.toArray (et + 1)) r6
       have hn8 := mem_set_ne (o' := listOf (r.map fun x => Value.ref x.wr).reverse.toArray (et + 1)) hn7 (nF hits)
       have hpl : x.p ≤ (succ x.nd).length := hpt.1.1
       have hlt := fuel_pop (keys := keys) (succ := succ) (S := S') (k := x.nd) (p := x.p) (r := fp r) hpl
       refine WPostG.next kF kN (n' := fuel keys succ S' (fp r)) (by rw [hn3]; exact hlt) ?_
       rw [hP2, hP0]
       refine ⟨r, x.nd :: fin', S', ⟨hG5, ⟨⟨q1.out⟩, ⟨q2.out⟩, ⟨q3.out⟩, ⟨q4.out⟩, ⟨q5.out⟩⟩, hn8, hdfs.pop (all_done hpt hc0), _, n, I8, Di.pop hvI' hom2 (without_last hk1 hxr) (fun kv hkv => hk2 kv (List.mem_filter.mp hkv).1) hnd, hnu⟩, path_pop hpt, hall', hSk', rfl, ?_⟩
       rw [hn3] at hle
       exact Nat.le_trans (Nat.le_of_lt hlt) hle
      ·refine oEEA (husI.at x.p v hux) fun c' tc' er7 hc' => ?_
       subst er7
       repeat' first | (k_unfold; (try dsimp only)) | ((fail_if_success (with_reducible first | refine WG ?_ | refine FG ?_)); (fail_if_success first | ((have _ := (by with_reducible assumption : Stopper3)); with_reducible show wpAny _ _ (execs _ _) _ _ _) | ((have _ := (by with_reducible assumption : Stopper5)); with_reducible show wpAny _ _ (delItem _ _) _ _ _) | ((have _ := (by with_reducible assumption : Stopper4)); with_reducible show wpAny _ _ (noteFrame _ _) _ _ _) | ((have _ := (by with_reducible assumption : Stopper2)); with_reducible show wpAny _ _ (subscriptTail _ _ (Value.ref _) (Value.ref _)) _ _ _) | ((have _ := (by with_reducible assumption : Stopper)); with_reducible show wpAny _ _ (exec (Stmt.If _ _ _ _) _) _ _ _)); first | ((with_reducible show wpAny _ _ (callWith _ (Value.ref _) [] (backTo _ (starEach [] _)) []) _ _ _); k_dflt (refine' callWith_wr (by k_asm) (by k_mem) ?_)) | ((with_reducible show wpAny _ _ (call (Value.ref _) _) _ _ _); (k_dflt (refine' nextItemK (by k_asm) (by k_asm) (by k_mem) (by k_mem) (by k_mem) (by with_reducible assumption) ?_); k_whole; intro _ _ _; (try dsimp only))) | ((with_reducible show wpAny _ _ (subscriptTail _ _ (Value.ref _) (Value.int (-1) _)) _ _ _); k_dflt (refine' item_lastK (by k_asm) (by k_mem) ?_ (by with_unfolding_all rfl))) | ((with_reducible show wpAny _ _ (eval (Expr.Name _ _) _) _ _ _); k_dflt refine' ld (by k_asm) (by first | exact Has.get (by with_reducible assumption) (by exact rfl) | exact rfl) ?_) | ((with_reducible refine execs_cons_gen ?_); intro _; (try dsimp only)) | walk1 | (dsimp only; walk1))
       clear st4
       refine WPostG.brk ?_
       dsimp only
       repeat' first | (k_unfold; (try dsimp only)) | ((fail_if_success (with_reducible first | refine WG ?_ | refine FG ?_)); (fail_if_success first | ((have _ := (by with_reducible assumption : Stopper3)); with_reducible show wpAny _ _ (execs _ _) _ _ _) | ((have _ := (by with_reducible assumption : Stopper5)); with_reducible show wpAny _ _ (delItem _ _) _ _ _) | ((have _ := (by with_reducible assumption : Stopper4)); with_reducible show wpAny _ _ (noteFrame _ _) _ _ _) | ((have _ := (by with_reducible assumption : Stopper2)); with_reducible show wpAny _ _ (subscriptTail _ _ (Value.ref _) (Value.ref _)) _ _ _) | ((have _ := (by with_reducible assumption : Stopper)); with_reducible show wpAny _ _ (exec (Stmt.If _ _ _ _) _) _ _ _)); first | ((with_reducible refine execs_nil_gen ?_); intro _; (try dsimp only)) | walk1 | (dsimp only; walk1))
       (with_reducible rename Fr _ _ _ _ => kF); (with_reducible rename News _ _ _ _ => kN)
       have nF : ∀ {p : Addr × Obj}, p ∈ rest' → Y.N2 ≠ p.1 := fun hp e => (Ii.rst _ hp).2 (e ▸ .inr (.inr (.inl rfl)))
       have hlt := fuel_draw (keys := keys) (succ := succ) (S := S') (r := fp r) hc'
       refine WPostG.next kF kN (n' := fuel keys succ S' (fp ({ x with p := x.p + 1 } :: r))) ?_ ?_
       ·rw [hn3] at hle; exact Nat.lt_of_lt_of_le hlt hle
       ·refine hJ1i _ _ _ _ ({ x with p := x.p + 1 } :: r) (fin') (S') (c') (tc') ?_ (⟨rfl⟩) (path_draw hpt hc') (hss x.nd hxk c' (List.mem_of_getElem? hc')) (fun e => (by cases e)) (hall') (.inl hSk') (rfl)
        rw [hP0]
        exact ⟨hG, ⟨⟨q1.out⟩, ⟨q2.out⟩, ⟨q3.out⟩, ⟨q4.out⟩, ⟨q5.out⟩⟩, mem_set_ne hn (nF hp0), hdfs.step, _, n, Ii.setRest hp0, Di.draw hnd, hnu⟩
 ·intro g m₁ news₁ h₁ tk₁ hj F₁ N₁
  dsimp only [envOf] at F₁ N₁
  rw [hJ, List.length_map, List.take_length] at hj
  refine oEEA (hj) fun fin S hp hall => ?_
  try clear hj
  rw [hP0] at hp
  refine oAAAAEEAA (hp) fun hG hNm hn hdfs rest' n Ii Di hnu => ?_
  try clear hp
  clear kF kN c1 c2 c3 c4 I1 I2 I3 I4 D4 hS hdS hso hom hno bB X' T' bD hG0
  have bB := hG.below
  have bX := hG.kin
  have bT := hG.top
  have bD := hG.dicts
  repeat' first | (k_unfold; (try dsimp only)) | ((fail_if_success (with_reducible first | refine WG ?_ | refine FG ?_)); (fail_if_success first | ((have _ := (by with_reducible assumption : Stopper3)); with_reducible show wpAny _ _ (execs _ _) _ _ _) | ((have _ := (by with_reducible assumption : Stopper5)); with_reducible show wpAny _ _ (delItem _ _) _ _ _) | ((have _ := (by with_reducible assumption : Stopper4)); with_reducible show wpAny _ _ (noteFrame _ _) _ _ _) | ((have _ := (by with_reducible assumption : Stopper2)); with_reducible show wpAny _ _ (subscriptTail _ _ (Value.ref _) (Value.ref _)) _ _ _) | ((have _ := (by with_reducible assumption : Stopper)); with_reducible show wpAny _ _ (exec (Stmt.If _ _ _ _) _) _ _ _)); first | ((with_reducible refine execs_cons_gen ?_); intro _; (try dsimp only)) | ((with_reducible refine execs_nil_gen ?_); intro _; (try dsimp only)) | walk1 | (dsimp only; walk1))
  (with_reducible rename Fr _ _ _ _ => kF); (with_reducible rename News _ _ _ _ => kN)
  refine leaveS_r kF kN hG.turn fun h₀' T' F' N' B' X' Tp' D' => ?_
  exact hnone h₀' _ _ _ ⟨T', B', X', Tp', D'⟩ F' N' (Ii.sub Di.old) (hdfs.ranked hall)
end
section
open PySem PySem.W PyProof.Rows PySem.Calls
variable {w : World} {mean : ExcName → Option Value} {mg mb : Str → Option Value} {dp un : Nat} {gd : Option (List Code)} {cn : Str} {cs : Scope} {a : Addr} {ccd : Value} {cl : List (Str × Addr)} {outer : List Env} {A₀ : Around} {base h₀ : Heap} {L : Addr} {m : Str → Option Value} {news : List (Addr × Obj)} {s : Shared} {Q E : Value → Shared → Prop}
section
theorem truthy_neK {prog : Program} {w : World} {A : Around} {E : Value → Shared → Prop} {s : Shared} {h₀ : Heap} {L : Addr} {news : Ledger} {l : Addr} {ep : Nat} {p : List Value} {Q : Bool → Shared → Prop} (N : News h₀ L s.heap news) (hm : (l, listOf p.toArray ep) ∈ news) (hne : p ≠ []) (hz : p.length ≤ 1000) (h : Q true { s with toks := s.toks + 1 + 1 }) : wpAny (model prog w) A (truthy (.ref l)) Q E s := by
 refine wpAny_truthy_list (News.isList N hm) (by rw [List.size_toArray]; omega) ?_
 have e : (!p.toArray.isEmpty) = true := by simp [hne]
 rw [e]; exact h
end
theorem off1_mem {D : Addr} : ∀ {l : Ledger}, LCg.Off1 D l → ∀ p ∈ l, p.1 ≠ D
 | [], _, _, h => nomatch h
 | _ :: _, x, p, h => by
  rcases List.mem_cons.mp h with rfl | h
  ·exact x.1
  ·exact off1_mem x.2 p h
theorem prep_spec {Y : Lay} {keys : List Int} {np : Int → Int} {succ : Int → List Int} {po fi : Int} {rest : Ledger} (B : Below A₀ base outer h₀) (F : Fr h₀ L s.heap m) (X : (Mine.hd.heap_39 w.params).In h₀) (N : News h₀ L s.heap news) (T : Top vw loose0 mean mg mb h₀) (hk : cs.kind = .function)
  (XB : (Mine.hd.heap_39 w.params).In base) (TB : Top vw loose0 mean mg mb base) (D : KtsDicts (outer.filterMap (·.frame)) h₀)
  (hd : dp + 59 < recursionLimit) (hu : un + 672 < cLine) (I : SIn w news Y keys np succ .none po fi rest) (hsz : keys.length ≤ 20) (hsl : ∀ k ∈ keys, (succ k).length ≤ 12) (hss : ∀ k ∈ keys, ∀ j ∈ succ k, j ∈ keys)
  (hok : ∀ h₀' R vs ep news' h' tk', Grd w mean mg mb A₀ base outer h₀ h₀' → Fr h₀' L h' m → News h₀' L h' news' → SIn w news' Y keys np succ (.ref R) po fi ((R, listOf (List.toArray vs) ep) :: rest) → IntsAre vs (keys.filter fun k => decide (np k = 0)) → Ranked keys succ → (∀ p ∈ rest, p.1 ≠ R) → Q .none { s with heap := h', toks := tk' })
  (hraise : ∀ g R vs ep news' rest' h' tk' e t ws, Fr h₀ L g m → g.UpToSlots h' → RaisedK base (envX cn cs L a ccd cl :: outer) e (.ref 115) t ws news' h' → SIn w news' Y keys np succ (.ref R) po fi rest' → (∀ p ∈ rest, p ∈ rest') → (R, listOf (List.toArray vs) ep) ∈ rest' → IntsAre vs (keys.filter fun k => decide (np k = 0)) → Ring keys succ → (∀ p ∈ rest, p.1 ≠ R) → E (.ref e) { s with heap := h', toks := tk' }) :
  wpAny (model prg w) (ktrTop dp un gd cn cs L a ccd cl outer) (call (.ref 152) [.ref Y.S]) Q E s := by
 refine wpAny_call ?_
 k_dflt (refine' code_defE ?k1u1 ?k2u1 ?k3u1 ?k4u1 ?k5u1 ?kAu1 ?kFu1 ?kKu1 ?kXBu1 ?kTBu1 ?kDu1 ?k6u1 ?k7u1 ?k8u1 ?k9u1 ?kBu1 ?_ ?c2u1 ?c3u1 ?c4u1 ?c5u1; (case kAu1 => exact rfl); (case kFu1 => exact rfl); (case kKu1 => first | assumption | exact rfl); (case k1u1 => k_asm); (case k2u1 => k_asm); (case k3u1 => k_asm); (case k4u1 => k_asm); (case k5u1 => k_asm); (case kXBu1 => assumption); (case kTBu1 => assumption); (case kDu1 => assumption); (case k6u1 => k_is); (case k7u1 => k_is); (case k8u1 => ktr_room); (case k9u1 => first | exact BindsTo.of_eq rfl | exact binds_K (by k_in) rfl (by k_is) rfl rfl rfl | (refine' kp_binds ?kxu1 ?keu1; (case kxu1 => k_in); (case keu1 => exact fun _ => rfl))); (case c5u1 => decide); (case kBu1 => exact locs rfl); (case c2u1 => exact rfl); (case c3u1 => exact rfl); (case c4u1 => exact rfl); k_whole; intro _ _ _ _ _ _ zzB' _ _ _; (try dsimp only); (try k_lift zzB'); (try k_fold))
 clear F N
 have hS := I.inst
 refine ex6 (I.sd) fun t1 t2 t3 t4 tpo tfi hdS => ?_
 refine oEA (I.n2) fun oN hoN hdN => ?_
 repeat' first | (k_unfold; (try dsimp only)) | ((fail_if_success (with_reducible first | refine WG ?_ | refine FG ?_)); (fail_if_success first | (with_reducible show wpAny _ _ (call (Value.ref 187) _ _) _ _ _) | ((have _ := (by with_reducible assumption : Stopper3)); with_reducible show wpAny _ _ (execs _ _) _ _ _)); first | ((with_reducible show wpAny _ _ (getMethod (Value.ref _) (Str.ofString "values") _) _ _ _); k_dflt (refine' kdl_method (knd := PySem.intKind _ _) PySem.F.slot_dict_values PySem.F.type_dict_values (by k_asm) (by k_mem) (by with_reducible assumption) ?_)) | ((with_reducible show wpAny _ _ (eval (Expr.ListComp _ _ _ _) _) _ _ _); (k_dflt (refine' ListComp_V (by k_asm) (by with_unfolding_all rfl) (by decide) (by rfl) (by decide) (by rfl) ?_ (by intro _; rfl)))) | ((with_reducible show wpAny _ _ (eval (Expr.Name _ _) _) _ _ _); k_dflt refine' ld (by k_asm) (by first | exact Has.get (by with_reducible assumption) (by exact rfl) | exact rfl) ?_) | ((with_reducible refine execs_cons_gen ?_); intro _; (try dsimp only)) | ((with_reducible refine execs_nil_gen ?_); intro _; (try dsimp only)) | walk1 | (dsimp only; walk1))
 (with_reducible rename Fr _ _ _ _ => kF); (with_reducible rename News _ _ _ _ => kN)
 (with_reducible rename Below (ktrTop _ _ _ _ _ _ _ _ _ _) _ _ _ => bB)
 (with_reducible rename KtsDicts _ _ => bD)
 dsimp only
 rename_i g' L' _ FG' X' T' _ _
 refine kta_callValues (knd := PySem.intKind _ _) kF kN hoN hdN I.nm ?_
 intro h2 hview F2 N2
 clear kF kN
 refine oEEAAAA (id hdN) fun es ep hex hes hK hP hnd => ?_
 have hpl : (pairsOfK Y keys).length = keys.length := List.length_map ..
 refine ⟨_, Y.N2, pairsOfK Y keys, ep, news, oN, rfl, rfl, F2, N2, hview, fun h' e => ⟨oN, es, e, hex, hes, hK, hP, hnd⟩, hoN, by rw [hpl, sizeLine_eq]; omega, ?_⟩
 rintro s₂ ⟨h2', rfl⟩
 clear F2 N2
 refine letX3_0_2eio (fun i ys nw => nw = news ∧ IntsAre ys ((keys.take i).filter fun k => decide (np k = 0)) : Nat → List Value → Ledger → Prop) (fun _ _ _ => .rfl) fun J hJ hJi hJo => ?_
 refine restT_inv J ?_ ?_ _ 0 [] news (Nat.zero_add _) (by exact hJi _ _ _ (rfl) (.nil))
 ·intro i ys nw hi hj v I1 oI C1 oC D1 m₂ h3 tk3 E3 hPv hNs hmx F3 N3 off hne
  refine hJo _ _ _ hj _ fun ej1 hys => ?_
  clear hj
  subst ej1
  refine ex1 (hPv) fun k hkv => ?_
  try clear hPv
  obtain ⟨hki, rfl⟩ : keys[i]? = some k ∧ v = .ref (Y.ia k) := by
   rw [List.getElem?_map] at hkv
   cases hq : keys[i]? with
   | none => rw [hq] at hkv; cases hkv
   | some j => rw [hq] at hkv; cases hkv; exact ⟨rfl, rfl⟩
  have hkk := List.mem_of_getElem? hki
  refine ex2 (I.info k hkk) fun ti tn hi0 => ?_
  have hdi0 := (I.dinf k hkk).1
  have hsub : ∀ p ∈ (I1, oI) :: (C1, oC) :: (D1, LCg.lst ys) :: nw, p ∈ (I1, oI) :: (C1, oC) :: (D1, LCg.lst ys) :: nw := fun p hp => hp
  have hC3 : (C1, oC) ∈ (I1, oI) :: (C1, oC) :: (D1, LCg.lst ys) :: nw := .tail _ (.head _)
  have hi3 : (Y.ia k, infoObj (Y.da k) k ti (np k) tn (Y.sa k)) ∈ (I1, oI) :: (C1, oC) :: (D1, LCg.lst ys) :: nw := .tail _ (.tail _ (.tail _ hi0))
  have hdi3 : (Y.da k, dictOf [] 0) ∈ (I1, oI) :: (C1, oC) :: (D1, LCg.lst ys) :: nw := .tail _ (.tail _ (.tail _ hdi0))
  clear hi0 hdi0 hS hdS
  generalize hn3 : (I1, oI) :: (C1, oC) :: (D1, LCg.lst ys) :: nw = nw3 at N3 hC3 hi3 hdi3
  rw [hn3] at hsub
  rw [← hn3] at hsub
  repeat' first | (k_unfold; (try dsimp only)) | ((fail_if_success (with_reducible first | refine WG ?_ | refine FG ?_)); (fail_if_success first | (with_reducible show wpAny _ _ (call (Value.ref 187) _ _) _ _ _) | ((have _ := (by with_reducible assumption : Stopper3)); with_reducible show wpAny _ _ (execs _ _) _ _ _)); first | walk1 | (dsimp only; walk1))
  ·(with_reducible rename np k = 0 => q1)
   refine LCg.CompEnd.intro F3 N3 nw (by rw [← hn3]; exact fun p hp => hp) off hoN ?_
   refine hJi _ _ _ (rfl) ?_
   rw [List.take_add_one, hki]
   simp only [Option.toList_some, List.filter_append]
   rw [List.filter_cons, if_pos (by simpa using q1)]
   exact hys.append (.cons _ _ .nil)
  ·(with_reducible rename np k ≠ 0 => q1)
   refine LCg.CompEnd.intro F3 N3 nw (by rw [← hn3]; exact fun p hp => hp) off hoN ?_
   refine hJi _ _ _ (rfl) ?_
   rw [List.take_add_one, hki]
   simp only [Option.toList_some, List.filter_append]
   rw [List.filter_cons, if_neg (by simpa using q1), List.filter_nil, List.append_nil]
   exact hys
 ·intro ys nw hj
  rw [hJ, hpl, List.take_length] at hj
  refine an1 (hj) fun er1 hys => ?_
  try clear hj
  subst er1
  intro R h4 tk4 F4 N4 o1
  clear hS hdS
  have hRn := off1_mem o1
  have hRr : ∀ p ∈ rest, p.1 ≠ R := fun p hp => hRn p (I.rst p hp).1
  have I5 := I.cons (o := listOf ys.toArray ys.length) hRn
  replace N4 : News g' L' h4 ((R, listOf ys.toArray ys.length) :: nw) := N4
  generalize (R, listOf ys.toArray ys.length) :: nw = news5 at N4 I5
  have hS := I5.inst
  refine ex6 (I5.sd) fun t1 t2 t3 t4 tpo tfi hdS => ?_
  have U5 := I5.uniq
  have st6 : Stopper3 := trivial
  dsimp only
  repeat' first | (k_unfold; (try dsimp only)) | ((fail_if_success (with_reducible first | refine WG ?_ | refine FG ?_)); (fail_if_success first | (with_reducible show wpAny _ _ (call (Value.ref 187) _ _) _ _ _) | ((have _ := (by with_reducible assumption : Stopper3)); with_reducible show wpAny _ _ (execs _ _) _ _ _)); first | ((with_reducible show wpAny _ _ (eval (Expr.Name _ _) _) _ _ _); k_dflt refine' ld (by k_asm) (by first | exact Has.get (by with_reducible assumption) (by exact rfl) | exact rfl) ?_) | walk1 | (dsimp only; walk1))
  (with_reducible rename Fr _ _ _ _ => kF); (with_reducible rename News _ _ _ _ => kN)
  refine oEA ((⟨_, kN, I5.setD⟩ : ∃ news6, News g' L' _ news6 ∧ SIn w news6 Y keys np succ (.ref R) po fi ((R, listOf ys.toArray ys.length) :: rest))) fun news6 kN6 I6 => ?_
  clear kN hS hdS U5 I5
  have hS := I6.inst
  refine ex6 (I6.sd) fun t1 t2 t3 t4 tpo tfi hdS => ?_
  clear st6
  repeat' first | (k_unfold; (try dsimp only)) | ((fail_if_success (with_reducible first | refine WG ?_ | refine FG ?_)); (fail_if_success first | (with_reducible show wpAny _ _ (call (Value.ref 187) _ _) _ _ _) | ((have _ := (by with_reducible assumption : Stopper3)); with_reducible show wpAny _ _ (execs _ _) _ _ _)); first | ((with_reducible show wpAny _ _ (eval (Expr.Name _ _) _) _ _ _); k_dflt refine' ld (by k_asm) (by first | exact Has.get (by with_reducible assumption) (by exact rfl) | exact rfl) ?_) | ((with_reducible refine execs_cons_gen ?_); intro _; (try dsimp only)) | walk1 | (dsimp only; walk1))
  show wpAny _ _ (call (Value.ref 187) [Value.ref Y.S]) _ _ _
  k_dflt (refine' find_spec ?k1 ?k2 ?k3 ?k4 ?k5 ?kK ?kXB ?kTB ?kD ?kd ?ku ?kI ?ksz ?ksl ?kss ?kn ?kr; (case k1 => k_asm); (case k2 => k_asm); (case k3 => k_asm); (case k4 => k_asm); (case k5 => k_asm); (case kK => first | exact rfl | assumption); (case kXB => assumption); (case kTB => assumption); (case kD => assumption); (case kd => ktr_room); (case ku => ktr_units); (case kI => exact I6); (case ksz => assumption); (case ksl => assumption); (case kss => assumption))
  ·intro g7 news7 h7 tk7 hG7 F7 N7 I7 hrank
   clear kF kN6 I6 hS hdS bB bD X' T'
   have bB := hG7.below
   have bX := hG7.kin
   have bT := hG7.top
   have bD := hG7.dicts
   dsimp only
   repeat' first | (k_unfold; (try dsimp only)) | ((fail_if_success (with_reducible first | refine WG ?_ | refine FG ?_)); (fail_if_success first | (with_reducible show wpAny _ _ (call (Value.ref 187) _ _) _ _ _) | ((have _ := (by with_reducible assumption : Stopper3)); with_reducible show wpAny _ _ (execs _ _) _ _ _)); first | ((with_reducible show wpAny _ _ (eval (Expr.Name _ _) _) _ _ _); k_dflt refine' ld (by k_asm) (by first | exact Has.get (by with_reducible assumption) (by exact rfl) | exact rfl) ?_) | ((with_reducible refine execs_cons_gen ?_); intro _; (try dsimp only)) | ((with_reducible refine execs_nil_gen ?_); intro _; (try dsimp only)) | walk1 | (dsimp only; walk1))
   (with_reducible rename Fr _ _ _ _ => kF); (with_reducible rename News _ _ _ _ => kN)
   refine leaveS_r kF kN hG7.turn fun h₀' T' F' N' B' X' Tp' D' => ?_
   exact hok h₀' R ys _ _ _ _ ⟨T', B', X', Tp', D'⟩ F' N' I7 hys hrank hRr
  ·intro g7 news7 h7 tk7 D7 vs7 ep7 rest7 hG7 F7 N7 I7 hold hD7 hv7 hl7 hring
   clear kF kN6 I6 hS hdS bB bD X' T'
   have bB := hG7.below
   have bX := hG7.kin
   have bT := hG7.top
   have bD := hG7.dicts
   have hDn := (I7.rst _ hD7).1
   dsimp only
   repeat' first | (k_unfold; (try dsimp only)) | ((fail_if_success (with_reducible first | refine WG ?_ | refine FG ?_)); (fail_if_success first | (with_reducible show wpAny _ _ (call (Value.ref 187) _ _) _ _ _) | ((have _ := (by with_reducible assumption : Stopper3)); with_reducible show wpAny _ _ (execs _ _) _ _ _)); first | ((with_reducible show wpAny _ _ (eval (Expr.Name _ _) _) _ _ _); k_dflt refine' ld (by k_asm) (by first | exact Has.get (by with_reducible assumption) (by exact rfl) | exact rfl) ?_) | ((with_reducible refine execs_cons_gen ?_); intro _; (try dsimp only)) | walk1 | (dsimp only; walk1))
   (with_reducible rename Fr _ _ _ _ => kF); (with_reducible rename News _ _ _ _ => kN)
   refine truthy_neK kN hDn hv7 hl7 ?_
   repeat' first | (k_unfold; (try dsimp only)) | ((fail_if_success (with_reducible first | refine WG ?_ | refine FG ?_)); (fail_if_success first | (with_reducible show wpAny _ _ (call (Value.ref 187) _ _) _ _ _) | ((have _ := (by with_reducible assumption : Stopper3)); with_reducible show wpAny _ _ (execs _ _) _ _ _)); first | ((with_reducible show wpAny _ _ (eval (Expr.Name _ _) _) _ _ _); k_dflt refine' ld (by k_asm) (by first | exact Has.get (by with_reducible assumption) (by exact rfl) | exact rfl) ?_) | ((with_reducible refine execs_cons_gen ?_); intro _; (try dsimp only)) | walk1 | (dsimp only; walk1))
   (with_reducible rename RaisedK _ _ _ _ _ _ _ _ => hR7)
   (with_reducible rename Heap.UpToSlots _ _ => hU7)
   exact hraise g' R ys _ _ _ _ _ _ _ _ FG' (Heap.UpToSlots.trans (fun b o e _ => hG7.turn.up e) hU7) hR7 I7 (fun p hp => hold p (.tail _ hp)) (hold _ (.head _)) hys hring hRr
end
section
theorem mem_foldAdd {j : Int} : ∀ (ps keys : List Int), j ∈ ps.foldl addKey keys ↔ j ∈ keys ∨ j ∈ ps
 | [], keys => by simp
 | p :: ps, keys => by
  rw [List.foldl_cons, mem_foldAdd ps]
  have : j ∈ addKey keys p ↔ j ∈ keys ∨ j = p := by
   unfold addKey
   split
   ·rename_i h
    constructor
    ·exact .inl
    ·rintro (q | rfl)
     ·exact q
     ·exact h
   ·rw [List.mem_append, List.mem_singleton]
  rw [this, List.mem_cons]
  constructor
  ·rintro ((h | h) | h)
   ·exact .inl h
   ·exact .inr (.inl h)
   ·exact .inr (.inr h)
  ·rintro (h | h | h)
   ·exact .inl (.inl h)
   ·exact .inl (.inr h)
   ·exact .inr h
theorem mem_keys (need : Int → List Int) {j : Int} : ∀ i, j ∈ keysAt need i ↔ j ∈ rng i ∨ ∃ k ∈ rng i, j ∈ need k
 | 0 => by simp [keysAt, rng]
 | i + 1 => by
  have e : keysAt need (i + 1) = (need (i : Int)).foldl addKey (addKey (keysAt need i) (i : Int)) := (stepAt need i).1
  have h2 := mem_foldAdd (j := j) [(i : Int)] (keysAt need i)
  rw [List.foldl_cons, List.foldl_nil] at h2
  rw [e, mem_foldAdd, h2, mem_keys need i, rng_succ]
  simp only [List.mem_append, List.mem_singleton]
  constructor
  ·rintro (((h | ⟨k, hk, hj⟩) | h) | h)
   ·exact .inl (.inl h)
   ·exact .inr ⟨k, .inl hk, hj⟩
   ·exact .inl (.inr h)
   ·exact .inr ⟨_, .inr rfl, h⟩
  ·rintro ((h | h) | ⟨k, hk | rfl, hj⟩)
   ·exact .inl (.inl (.inl h))
   ·exact .inl (.inr h)
   ·exact .inl (.inl (.inr ⟨k, hk, hj⟩))
   ·exact .inr hj
theorem mem_keysAt {need : Int → List Int} {n : Nat} (hn : ∀ k ∈ rng n, ∀ j ∈ need k, j ∈ rng n) {j : Int} : j ∈ keysAt need n ↔ j ∈ rng n := by
 rw [mem_keys]
 constructor
 ·rintro (h | ⟨k, hk, hj⟩)
  ·exact h
  ·exact hn k hk j hj
 ·exact .inl
theorem needF_rng (cs : List Int) (tot : Int) (n : Nat) : ∀ k ∈ rng n, ∀ j ∈ needF cs tot n k, j ∈ rng n := by
 intro k hk j hj
 rw [mem_rng] at hk ⊢
 unfold needF at hj
 refine an1 (List.mem_filter.mp hj) fun h1 h2 => ?_
 have h3 := of_decide_eq_true h2
 have h0 : 0 ≤ j := by
  unfold namedF at h1
  rcases List.mem_cons.mp h1 with rfl | h1
  ·exact Int.emod_nonneg _ (by omega)
  ·rw [List.mem_singleton] at h1
   subst h1
   exact Int.emod_nonneg _ (by omega)
 omega
end
section
open PySem PySem.W PyProof.Rows PySem.Calls PySem.Spec
structure SL (w : World) (L : Addr) (nw : Ledger) (Y : Lay) (keys : List Int) (np : Int → Int) (succ : Int → List Int) (rd : Value) (po fi : Int) (c : Nat → Option Value) (rest : Ledger) : Prop where
 ex : ∃ R2, SIn w nw Y keys np succ rd po fi R2 ∧ LF R2 L c rest
section
variable {w : World} {L : Addr} {nw : Ledger} {Y : Lay} {keys : List Int} {np : Int → Int} {succ : Int → List Int} {rd : Value} {po fi : Int} {c : Nat → Option Value} {rest : Ledger}
theorem SL.lf (S : SL w L nw Y keys np succ rd po fi c rest) : LF nw L c rest := by
 refine oEA (S.ex) fun R2 I C => ?_
 exact C.up I.uniq fun p hp => (I.rst p hp).1
theorem SL.mem (S : SL w L nw Y keys np succ rd po fi c rest) {p : Addr × Obj} (h : p ∈ rest) : p ∈ nw := (S.lf.rst p h).1
theorem SL.uniq (S : SL w L nw Y keys np succ rd po fi c rest) : Uniq nw := S.lf.uniq
theorem SL.sub (S : SL w L nw Y keys np succ rd po fi c rest) {rest' : Ledger} (h : ∀ p ∈ rest', p ∈ rest) : SL w L nw Y keys np succ rd po fi c rest' := by
 refine oEA (S.ex) fun R2 I C => ?_
 exact ⟨R2, I, C.sub h⟩
theorem SL.cons (S : SL w L nw Y keys np succ rd po fi c rest) {a : Addr} {o : Obj} (h : ∀ p ∈ nw, p.1 ≠ a) : SL w L ((a, o) :: nw) Y keys np succ rd po fi c ((a, o) :: rest) := by
 refine oEA (S.ex) fun R2 I C => ?_
 exact ⟨_, I.cons h, C.cons fun p hp => h p (I.rst p hp).1⟩
theorem SL.set (S : SL w L nw Y keys np succ rd po fi c rest) {a : Addr} {o o' : Obj} (h : (a, o) ∈ rest) : SL w L (setL nw a o') Y keys np succ rd po fi c (setL rest a o') := by
 refine oEA (S.ex) fun R2 I C => ?_
 exact ⟨_, I.setRest (C.rst _ h).1, C.set h⟩
theorem SL.store (S : SL w L nw Y keys np succ rd po fi c rest) {i : Nat} {v : Value} {o : Obj} (hi : i < 7) (hd : o.data = .cell (some v)) : SL w L (setL nw (L + 1 + i) o) Y keys np succ rd po fi (setC c i v) rest := by
 refine oEA (S.ex) fun R2 I C => ?_
 refine oEA (C.cell i hi) fun o0 ho0 _ => ?_
 exact ⟨_, I.setRest ho0, C.store hi hd⟩
end
section
variable {M : Model} {A : Around} {E : Value → Shared → Prop} {s : Shared} {h₀ : Heap} {L a : Addr} {m : FMap} {cn : Str} {cs : Scope} {ccd : Value} {cl : List (Str × Addr)} {x : Str} {v : Value} {news rest : Ledger} {c : Nat → Option Value}
 {w : World} {Y : Lay} {keys : List Int} {np : Int → Int} {succ : Int → List Int} {rd : Value} {po fi : Int}
theorem store_SL {i : Nat} {Q : Unit → Shared → Prop} (C : SL w L news Y keys np succ rd po fi c rest) (F : Fr h₀ L s.heap m) (N : News h₀ L s.heap news) (hc : cl.lookup x = some (L + 1 + i)) (hi : i < 7)
  (h : ∀ h' nw, Fr h₀ L h' m → News h₀ L h' nw → SL w L nw Y keys np succ rd po fi (setC c i v) rest → Q () { s with heap := h' })
  (hk : cs.kind = .function := by rfl) (hx : (envX cn cs L a ccd cl).kindOf x = some .cell := by rfl) : wpAny M A (storeName (envX cn cs L a ccd cl) x v) Q E s := by
 refine oEA (C.lf.cell i hi) fun o ho hd => ?_
 exact storeX_C F N hc (updF_uniq C.uniq ho) hd (fun h' o' F' N' hd' => h h' _ F' N' (C.store hi hd')) hk hx
theorem newList_SL {vs : List Value} {Q : Value → Shared → Prop} (C : SL w L news Y keys np succ rd po fi c rest) (F : Fr h₀ L s.heap m) (N : News h₀ L s.heap news) (hz : vs.length ≤ 1000)
  (h : ∀ D h' nw, Fr h₀ L h' m → News h₀ L h' nw → SL w L nw Y keys np succ rd po fi c ((D, listOf vs.toArray 0) :: rest) → (∀ p ∈ rest, p.1 ≠ D) → Q (.ref D) { s with heap := h' }) : wpAny M A (newList vs) Q E s :=
 wpAny_newObj_type (h _ _ _ (F.push _) (News.push F N _ rfl) (C.cons fun p hp => Nat.ne_of_lt (Heap.lt_size (N p hp).1)) (fun p hp => Nat.ne_of_lt (Heap.lt_size (N p (C.mem hp)).1))) (by size_fits)
end
section
variable {prog : Program} {w : World} {A₀ : Around} {E : Value → Shared → Prop} {s' : Shared} {h₀ h : Heap} {outer : List Env} {L a e t : Addr} {m : Str → Option Value} {name : Str} {scope : Scope} {cd : Value} {cl : List (Str × Addr)}
 {vs : List Value} {n : Str} {b₀ : Stmt} {suite : List Stmt} {pos np : Pos} {rest : List ExceptHandler} {Q : Flow → Shared → Prop} {news : List (Addr × Obj)} {KF : Frag} {C : Addr} {bmB : List Value} {newId : String}
 {p : Program} {loose : List Str} {mean : ExcName → Option Value} {mg mb : Str → Option Value} {x y : Str} {T' : String}
theorem caught_OX (K : Below A₀ h₀ outer h₀) (F : Fr h₀ L h m) (hsm : h.UpToSlots s'.heap) (R : RaisedK h₀ (envX name scope L a cd cl :: outer) e (.ref C) t vs news s'.heap)
  (X : KF.In h₀) (T : TopRead p loose mg mb h₀) (ex : nsIn KF mainGlobals x = some (some (.ref C))) (q : excIn KF C bmB newId = true) (hbase : bmB.contains (.type "BaseException") = true)
  (k : ∀ h', Fr h₀ L h' m → News h₀ L h' news →
   wpAny (model prog w) ((A₀.deeper (envX name scope L a cd cl)).mark (some (.ref e))) (execs (b₀ :: suite) (envX name scope L a cd cl)) Q E { s' with heap := h' })
  (hk : scope.kind = .function := by rfl) (hx : (envX name scope L a cd cl).kindOf x = some .globalImplicit := by rfl) (hd : (x == ("__debug__" : Str)) = false := by decide)
  (hE : PassesOwnAt (model prog w) ((A₀.deeper (envX name scope L a cd cl)).mark (some (.ref e))) (A₀.deeper (envX name scope L a cd cl)) (envX name scope L a cd cl) E := by passes_own) :
  wpAny (model prog w) (A₀.deeper (envX name scope L a cd cl)) (noteFrame (.ref e) (envX name scope L a cd cl))
   (fun _ s₂ => wpAny (model prog w) (A₀.deeper (envX name scope L a cd cl)) (setFlight (.ref e) none) (fun _ s₃ =>
    wpAny (model prog w) (A₀.deeper (envX name scope L a cd cl)) (handleBy (.ref e) (envX name scope L a cd cl) (.ExceptHandler (some (.Name x np)) none (b₀ :: suite) pos :: rest)) Q E s₃) E s₂) E s' := by
 refine an1 (R) fun ob1 htup => ?_
 try clear R
 obtain ⟨B, hB, hl, hfl, hnew⟩ := ob1
 have hL : B.get? L = none := by
  refine an2 (hfl.2.2.1) fun _ ob2 _ => ?_
  obtain ⟨L', _, hf, hn', _⟩ := ob2
  obtain rfl : L = L' := Option.some.inj hf
  exact hn'
 refine wpAny_looks_onW (Around.frames_deeper K.stack) rfl hfl fun h₄ hheld₄ hsm₄ => ?_
 refine wpAny_landsW hheld₄ fun h₅ hheld hsm₅' => ?_
 have hsm₅ := hsm₄.trans hsm₅'
 have hheld' := flyingW_base hB hheld
 have F₅ := F.of_stays hheld'.1 (hsm.trans hsm₅)
 refine oEA (hheld'.there) fun ob hob hobc => ?_
 refine wpAny_handleBy_cons (codeAny_handlers_test (nameX_K F₅ X T ex ?_ hk hx hd)) (by intro q; cases q)
 refine oEEEEEEEEEEEEEEEEEAAA (((own_of_in X T ex q).keeps F₅.keep).obj) fun bm N nm qn bs hdct sn sub ab col dd k0 k1 k2 k3 k5 mN hC hN hni TL => ?_
 refine wpAny_excMatches_sub_self hC hob hobc (TL.hasType hbase) (codeAny_handlers_suite ?_)
 refine lands_againW hheld fun h₆ hfl₆ hsm₆ => ?_
 have hfl₆' := flyingW_base hB hfl₆
 have F₆ := F.of_stays hfl₆'.1 ((hsm.trans hsm₅).trans hsm₆)
 exact wpAny_passesOwnAt hE (k h₆ F₆ fun q hq => ⟨hfl₆.1 _ _ (hl q hq).1, (fun z => by have := (hl q hq).1; rw [z, hL] at this; cases this), (hl q hq).2⟩)
end
structure InS5 (w : World) (L : Addr) (cs : List Int) (tot : Int) (n : Nat) (Do Dn : Addr) (yo yn : List Value) (eo en : Nat) (m : FMap) (nw : Ledger) (c : Nat → Option Value) (tb : Tok) (rs : Ledger) (Dl Du : Addr) (vl vd : List Value) (el ed : Nat) (Y : Lay) (R : Addr) (vr : List Value) (er : Nat) : Prop where
 sl : SL w L nw Y (keysAt (needF cs tot n) n) (npAt (needF cs tot n) n) (succAt (needF cs tot n) n) (.ref R) 0 0 c ((R, listOf vr.toArray er) :: rs)
 off : ∀ p ∈ rs, p.1 ≠ R
 c5 : CV c 5 (.ref Dl)
 k1 : Has m (Str.ofString "old") (.ref Do)
 k2 : Has m (Str.ofString "new") (.ref Dn)
 k3 : Has m (Str.ofString "bound") (.int (4 + tot) tb)
 k4 : Has m (Str.ofString "due") (.ref Du)
 k5 : Has m (Str.ofString "sorter") (.ref Y.S)
 k6 : Has m (Str.ofString "held") (.bool (!decide (leftI (needF cs tot n) n n = [])))
 r2 : (Do, listOf yo.toArray eo) ∈ rs
 r3 : (Dn, listOf yn.toArray en) ∈ rs
 ru : (Du, listOf vd.toArray ed) ∈ rs
 rl : (Dl, listOf vl.toArray el) ∈ rs
 lv : IntsAre vl (leftI (needF cs tot n) n n)
 due : Lists rs vd (dueI (needF cs tot n) n n)
 rv : IntsAre vr ((keysAt (needF cs tot n) n).filter fun k => decide (npAt (needF cs tot n) n k = 0))
end
section
open PySem PySem.W PyProof.Rows PySem.Calls
variable {w : World} {mean : ExcName → Option Value} {mg mb : Str → Option Value} {dp un : Nat} {gd : Option (List Code)} {cn : Str} {cs : Scope} {a : Addr} {ccd : Value} {cl : List (Str × Addr)} {outer : List Env} {A₀ : Around} {base h₀ : Heap} {L : Addr} {m : Str → Option Value} {news : List (Addr × Obj)} {s : Shared} {Q E : Value → Shared → Prop}
theorem law_S5 {w : World} {mean : ExcName → Option Value} {mg mb : Str → Option Value} {h₀ : Heap} {L fa w7 : Addr} {s : Shared} {m : FMap} {nw : Ledger} {qk : Flow → Shared → Prop} {cs : List Int} {tot : Int} {n : Nat} {D Do Dn Dd : Addr} {vs yo yn : List Value} {ep eo en : Nat} {c : Nat → Option Value} {tt tn tb : Tok} {rs : Ledger} {od : Obj} {la : Int → Addr} {Dl Du : Addr} {vl vd : List Value} {el ed : Nat}
  (X0 : (Mine.hd.heap_39 w.params).In h₀) (T0 : Top vw loose0 mean mg mb h₀) (B0 : Below callerA h₀ [] h₀) (hn : n ≤ 6) (hdm : (Dd == sysModules) = false) (F : Fr h₀ L s.heap m) (N : News h₀ L s.heap nw)
  (P : InS4 w L cs tot n D Do Dn Dd vs yo yn ep eo en od la n m nw c tt tn tb rs Dl Du vl vd el ed)
  (hret : ∀ g Y R vr er m nw rs h' tk', (∀ b o, h₀.get? b = some o → g.get? b = some o) → Below callerA h₀ [] g → (Mine.hd.heap_39 w.params).In g → Top vw loose0 mean mg mb g → Fr g L h' m → News g L h' nw → InS5 w L cs tot n Do Dn yo yn eo en m nw c tb rs Dl Du vl vd el ed Y R vr er → wpAny (model PySem.Challenge.rw_ny0310_01.row.prog w) (callerA.deeper (lawE L fa w7)) (execs (lawB 15) (lawE L fa w7)) qk NoE { s with heap := h', toks := tk' }) :
  wpAny (model PySem.Challenge.rw_ny0310_01.row.prog w) (callerA.deeper (lawE L fa w7)) (execs (lawB 12) (lawE L fa w7)) qk NoE s := by
 have hret' := hret
 conv at hret' in (lawB 15) => unfold lawB; whnf
 conv in (lawB 12) => unfold lawB; whnf
 unfold lawE at hret' ⊢
 simp only [show lawS = _ from by conv => lhs; whnf] at hret' ⊢
 clear hret
 obtain ⟨C2, du, PA, c5, k4, rl, lv, due⟩ := P
 obtain ⟨-, c0, c1, c2, c4, k1, k2, k3, r1, r2, r3, r4, hdd, hla⟩ := PA
 have st3 : Stopper3 := trivial
 first | ((with_reducible refine execs_cons_gen ?_); intro _; (try dsimp only)) | walk1
 repeat' first | (k_unfold; (try dsimp only)) | ((fail_if_success (with_reducible first | refine WG ?_ | refine FG ?_)); (fail_if_success first | (with_reducible show wpAny _ _ (call (Value.ref _) _) _ _ _) | (with_reducible show wpAny _ _ (compareOp _ _ (Value.ref _)) _ _ _) | ((have _ := (by with_reducible assumption : Stopper3)); (with_reducible show wpAny _ _ (execs _ _) _ _ _))); first | ((with_reducible show wpAny _ _ (eval (Expr.Call _ _ _ _) _) _ _ _); k_dflt refine Call_ ?_) | ((with_reducible show wpAny _ _ (eval (Expr.Name _ _) (envOfC _ _ _ _ _)) _ _ _); k_dflt refine' rdF (by rfl) (by rfl) (by rfl) (by with_reducible assumption) (by k_asm) (by rfl) (by first | exact rfl | exact CV.get (by with_reducible assumption) (by exact rfl)) ?_) | walk1 | (dsimp only; walk1))
 have hN : NeedsIn w nw Dd n la (needF cs tot n) := ⟨⟨od, (C2.rst _ (.tail _ r4)).1, hdd⟩, hdm, fun k hk => by
  refine oEEA (hla k hk) fun us es hu hui => ?_
  exact ⟨us, es, (C2.rst _ (.tail _ hu)).1, hui⟩, fun k _ => needF_len _ _ _ _⟩
 (k_dflt refine' make_spec B0 F X0 N T0 ?kK ?kd ?ku C2.uniq hN hn ?_)
 case kK => exact rfl
 case kd => ktr_room
 case ku => ktr_units
 intro Y nw1 h1 tk1 I1 F1 N1
 have S1 : SL w L nw1 Y (keysAt (needF cs tot n) n) (npAt (needF cs tot n) n) (succAt (needF cs tot n) n) .none 0 0 c ((Du, listOf vd.toArray ed) :: rs) := ⟨nw, I1, C2⟩
 clear F N hN C2 I1
 dsimp only
 repeat' first | (k_unfold; (try dsimp only)) | ((fail_if_success (with_reducible first | refine WG ?_ | refine FG ?_)); (fail_if_success first | (with_reducible show wpAny _ _ (call (Value.ref _) _) _ _ _) | (with_reducible show wpAny _ _ (compareOp _ _ (Value.ref _)) _ _ _) | ((have _ := (by with_reducible assumption : Stopper3)); (with_reducible show wpAny _ _ (execs _ _) _ _ _))); first | walk1 | (dsimp only; walk1))
 first | ((with_reducible refine execs_cons_gen ?_); intro _; (try dsimp only)) | walk1
 repeat' first | (k_unfold; (try dsimp only)) | ((fail_if_success (with_reducible first | refine WG ?_ | refine FG ?_)); (fail_if_success first | (with_reducible show wpAny _ _ (call (Value.ref _) _) _ _ _) | (with_reducible show wpAny _ _ (compareOp _ _ (Value.ref _)) _ _ _) | ((have _ := (by with_reducible assumption : Stopper3)); (with_reducible show wpAny _ _ (execs _ _) _ _ _))); first | walk1 | (dsimp only; walk1))
 first | ((with_reducible refine execs_cons_gen ?_); intro _; (try dsimp only)) | walk1
 repeat' first | (k_unfold; (try dsimp only)) | ((fail_if_success (with_reducible first | refine WG ?_ | refine FG ?_)); (fail_if_success first | (with_reducible show wpAny _ _ (call (Value.ref _) _) _ _ _) | (with_reducible show wpAny _ _ (compareOp _ _ (Value.ref _)) _ _ _) | ((have _ := (by with_reducible assumption : Stopper3)); (with_reducible show wpAny _ _ (execs _ _) _ _ _))); first | walk1 | (dsimp only; walk1))
 (with_reducible rename Fr _ _ _ _ => kF); (with_reducible rename News _ _ _ _ => kN)
 refine oEA (S1.ex) fun R2 I1 CR => ?_
 have hS := I1.inst
 refine ex6 (I1.sd) fun t1 t2 t3 t4 tpo tfi hdS => ?_
 refine wpAny_Try_except ?_
 repeat' first | (k_unfold; (try dsimp only)) | ((fail_if_success (with_reducible first | refine WG ?_ | refine FG ?_)); (fail_if_success first | (with_reducible show wpAny _ _ (call (Value.ref _) _) _ _ _) | (with_reducible show wpAny _ _ (compareOp _ _ (Value.ref _)) _ _ _) | ((have _ := (by with_reducible assumption : Stopper3)); (with_reducible show wpAny _ _ (execs _ _) _ _ _))); first | walk1 | (dsimp only; walk1))
 first | ((with_reducible refine execs_cons_gen ?_); intro _; (try dsimp only)) | walk1
 repeat' first | (k_unfold; (try dsimp only)) | ((fail_if_success (with_reducible first | refine WG ?_ | refine FG ?_)); (fail_if_success first | (with_reducible show wpAny _ _ (call (Value.ref _) _) _ _ _) | (with_reducible show wpAny _ _ (compareOp _ _ (Value.ref _)) _ _ _) | ((have _ := (by with_reducible assumption : Stopper3)); (with_reducible show wpAny _ _ (execs _ _) _ _ _))); first | ((with_reducible show wpAny _ _ (eval (Expr.Name _ _) (envOfC _ _ _ _ _)) _ _ _); k_dflt first | refine' nmL (by rfl) (by first | rfl | assumption) (by k_asm) (by first | exact Has.get (by with_reducible assumption) (by exact rfl) | exact rfl) ?_ | refine' nmC (by rfl) (by first | rfl | assumption) (by k_asm) (by rfl) (by k_mem) (by with_reducible assumption) ?_) | walk1 | (dsimp only; walk1))
 have hky := fun j => mem_keysAt (needF_rng cs tot n) (j := j)
 have hkl : (keysAt (needF cs tot n) n).length ≤ 20 := by
  have := keysAt_len (needF cs tot n) n (fun k _ => needF_len _ _ _ _)
  omega
 have hsl : ∀ k ∈ keysAt (needF cs tot n) n, (succAt (needF cs tot n) n k).length ≤ 12 := fun k _ => by
  have := succAt_len (needF cs tot n) n k (fun k _ => needF_len _ _ _ _)
  omega
 show wpAny _ _ (call (Value.ref 152) [Value.ref Y.S]) _ _ _
 (k_dflt refine' prep_spec (base := h₀) B0 kF X0 kN T0 ?kK X0 T0 ktsDicts_nil ?kd ?ku I1 hkl hsl ?kss ?_ ?_)
 case kK => exact rfl
 case kd => ktr_room
 case ku => ktr_units
 case kss => exact fun k _ j hj => (hky j).mpr (mem_succAt.mp hj).1
 ·intro g R vr er nw2 h2 tk2 G F2 N2 I2 hvr hrk hRn
  clear hS hdS I1 kF kN
  have hleft := ranked_left (need := needF cs tot n) (n := n) (keys := keysAt (needF cs tot n) n) (succ := succAt (needF cs tot n) n) (fun k hk => (hky k).mpr hk) (fun k hk j hj => mem_succAt.mpr ⟨hk, hj⟩) hrk
  first | ((with_reducible refine execs_nil_gen ?_); intro _; (try dsimp only)) | walk1
  first | ((with_reducible refine execs_nil_gen ?_); intro _; (try dsimp only)) | walk1
  refine hret' g Y R vr er _ nw2 ((Du, listOf vd.toArray ed) :: rs) _ _ (fun b o e => G.turn.other b o e (fun q => nomatch q)) G.below G.kin G.top F2 N2 ⟨⟨_, I2, CR.cons hRn⟩, fun p hp => hRn p (CR.rst p hp).1, ⟨c5.out⟩, ⟨k1.out⟩, ⟨k2.out⟩, ⟨k3.out⟩, ⟨k4.out⟩, ⟨rfl⟩, ⟨by rw [decide_eq_true hleft]; rfl⟩, .tail _ r2, .tail _ r3, .head _, .tail _ rl, lv, due.mono fun h => .tail _ h, hvr⟩
 ·intro g R vr er nw2 R3 h2 tk2 e t ws FG hup hRk I2 hsub hmR hvr hring hRn
  clear hS hdS I1 kF kN
  have hleft := ring_left (need := needF cs tot n) (n := n) (keys := keysAt (needF cs tot n) n) (succ := succAt (needF cs tot n) n) (fun k hk => (hky k).mp hk) (fun k hk j hj h => (mem_succAt.mp h).2) trivial hring
  have I3 := I2.sub (rest' := (R, listOf vr.toArray er) :: R2) (List.forall_mem_cons.mpr ⟨hmR, hsub⟩)
  refine caught_OX (bmB := [.type "ValueError", .type "Exception", .type "BaseException", .type "object"]) (newId := "ValueError.__new__") B0 FG hup hRk X0 (topRead_of T0) (by k_is) (by k_exc) rfl ?_
  intro h3 F3 N3
  repeat' first | (k_unfold; (try dsimp only)) | ((fail_if_success (with_reducible first | refine WG ?_ | refine FG ?_)); (fail_if_success first | (with_reducible show wpAny _ _ (call (Value.ref _) _) _ _ _) | (with_reducible show wpAny _ _ (compareOp _ _ (Value.ref _)) _ _ _) | ((have _ := (by with_reducible assumption : Stopper3)); (with_reducible show wpAny _ _ (execs _ _) _ _ _))); first | walk1 | (dsimp only; walk1))
  first | ((with_reducible refine execs_cons_gen ?_); intro _; (try dsimp only)) | walk1
  repeat' first | (k_unfold; (try dsimp only)) | ((fail_if_success (with_reducible first | refine WG ?_ | refine FG ?_)); (fail_if_success first | (with_reducible show wpAny _ _ (call (Value.ref _) _) _ _ _) | (with_reducible show wpAny _ _ (compareOp _ _ (Value.ref _)) _ _ _) | ((have _ := (by with_reducible assumption : Stopper3)); (with_reducible show wpAny _ _ (execs _ _) _ _ _))); first | walk1 | (dsimp only; walk1))
  (with_reducible rename Fr _ _ _ _ => kF); (with_reducible rename News _ _ _ _ => kN)
  dsimp only
  first | ((with_reducible refine execs_nil_gen ?_); intro _; (try dsimp only)) | walk1
  exact hret' h₀ Y R vr er _ nw2 ((Du, listOf vd.toArray ed) :: rs) _ _ (fun _ _ e => e) B0 X0 T0 kF kN ⟨⟨_, I3, CR.cons hRn⟩, fun p hp => hRn p (CR.rst p hp).1, ⟨c5.out⟩, ⟨k1.out⟩, ⟨k2.out⟩, ⟨k3.out⟩, ⟨k4.out⟩, ⟨rfl⟩, ⟨by rw [decide_eq_false hleft]; rfl⟩, .tail _ r2, .tail _ r3, .head _, .tail _ rl, lv, due.mono fun h => .tail _ h, hvr⟩
end
section
open PySem PySem.W PyProof.Rows PySem.Calls
variable {w : World} {mean : ExcName → Option Value} {mg mb : Str → Option Value} {dp un : Nat} {gd : Option (List Code)} {cn : Str} {cs : Scope} {a : Addr} {ccd : Value} {cl : List (Str × Addr)} {outer : List Env} {A₀ : Around} {base h₀ : Heap} {L : Addr} {m : Str → Option Value} {news : List (Addr × Obj)} {s : Shared} {Q E : Value → Shared → Prop}
theorem text_spec {bs : Array UInt8} {tb : Tok} (B : Below A₀ base outer h₀) (F : Fr h₀ L s.heap m) (X : (Mine.hd.heap_39 w.params).In h₀) (N : News h₀ L s.heap news) (T : Top vw loose0 mean mg mb h₀) (hk : cs.kind = .function)
  (hd : dp + 39 < recursionLimit) (hu : un + 372 < cLine) (hb : bs.size ≤ 100)
  (hret : ∀ t h' tk', Fr h₀ L h' m → News h₀ L h' news → Q (.str (mkS (bs.toList.map UInt8.toNat)) t) { s with heap := h', toks := tk' }) :
  wpAny (model prg w) (ktrTop dp un gd cn cs L a ccd cl outer) (call (.ref 218) [.bytes bs tb]) Q E s := by
 refine wpAny_call ?_
 k_dflt (refine' code_def ?k1u1 ?k2u1 ?k3u1 ?k4u1 ?k5u1 ?kAu1 ?kFu1 ?kKu1 ?k6u1 ?k7u1 ?k8u1 ?k9u1 ?kBu1 ?_ ?c2u1 ?c3u1 ?c4u1 ?c5u1; (case kAu1 => exact rfl); (case kFu1 => exact rfl); (case kKu1 => first | assumption | exact rfl); (case k1u1 => k_asm); (case k2u1 => k_asm); (case k3u1 => k_asm); (case k4u1 => k_asm); (case k5u1 => k_asm); (case k6u1 => k_is); (case k7u1 => k_is); (case k8u1 => ktr_room); (case k9u1 => first | exact BindsTo.of_eq rfl | exact binds_K (by k_in) rfl (by k_is) rfl rfl rfl | (refine' kp_binds ?kxu1 ?keu1; (case kxu1 => k_in); (case keu1 => exact fun _ => rfl))); (case c5u1 => decide); (case kBu1 => exact locs rfl); (case c2u1 => exact rfl); (case c3u1 => exact rfl); (case c4u1 => exact rfl); k_whole; intro _ _ _ _ _ _ zzB' _ _; (try dsimp only); (try k_lift zzB'); (try k_fold))
 refine wpAny_noRaise ?_
 clear F N
 repeat' first | (k_unfold; (try dsimp only)) | ((fail_if_success (with_reducible first | refine WG ?_ | refine FG ?_)); (fail_if_success first | (with_reducible show wpAny _ _ (call (Value.builtin "str.join") _ _) _ _ _)); first | ((with_reducible show wpAny _ _ (eval (Expr.ListComp _ _ _ _) _) _ _ _); (k_dflt (refine' ListComp_Y (by k_asm) (by with_unfolding_all rfl) (by decide) (by rfl) (by decide) (by rfl) ?_ (by intro _; rfl)))) | (first | with_reducible ((with_reducible show wpAny _ _ (call _ [Value.bytes _ _]) _ _ _); refine call_type_of (Tx := "bytes") rfl (by decide +kernel) ?_) | ((with_reducible show wpAny _ _ (call _ [Value.bytes _ _]) _ _ _); refine call_type_of (Tx := "bytes") rfl (by decide +kernel) ?_)) | ((with_reducible show wpAny _ _ (eval (Expr.Name _ _) _) _ _ _); k_dflt refine' ld (by k_asm) (by first | exact Has.get (by with_reducible assumption) (by exact rfl) | exact rfl) ?_) | ((with_reducible refine execs_cons_gen ?_); intro _; (try dsimp only)) | ((with_reducible refine execs_nil_gen ?_); intro _; (try dsimp only)) | walk1 | (dsimp only; walk1))
 (with_reducible rename Fr _ _ _ _ => kF); (with_reducible rename News _ _ _ _ => kN)
 refine ⟨bs, tb, news, rfl, rfl, kF, kN, by rw [sizeLine_eq]; omega, ?_⟩
 rintro s₂ ⟨h2', rfl⟩
 refine letX3_0_2eio (fun i ys nw => nw = news ∧ StrsAre ys (((bs.toList.take i).map fun c => [c.toNat]).map mkS) : Nat → List Value → Ledger → Prop) (fun _ _ _ => .rfl) fun J hJ hJi hJo => ?_
 refine rest_inv J ?_ ?_ _ 0 [] news (Nat.zero_add _) (by exact hJi _ _ _ (rfl) (.nil))
 ·intro i ys nw hi hj v I1 oI C1 oC D1 m₂ h3 tk3 E3 hPv hNs hmx F3 N3 off hne
  refine hJo _ _ _ hj _ fun ej1 hys => ?_
  clear hj
  subst ej1
  refine oEEA (hPv) fun c u hc er1 => ?_
  try clear hPv
  subst er1
  have hc256 : c.toNat < 256 := c.toNat_lt
  have hci : bs.toList[i]? = some c := by simpa using hc
  have hC3 : (C1, oC) ∈ (I1, oI) :: (C1, oC) :: (D1, LCg.lst ys) :: nw := .tail _ (.head _)
  generalize hn3 : (I1, oI) :: (C1, oC) :: (D1, LCg.lst ys) :: nw = nw3 at N3 hC3
  repeat' first | (k_unfold; (try dsimp only)) | ((fail_if_success (with_reducible first | refine WG ?_ | refine FG ?_)); (fail_if_success first | (with_reducible show wpAny _ _ (call (Value.builtin "str.join") _ _) _ _ _)); first | (first | with_reducible ((with_reducible show wpAny _ _ (call (Value.builtin "chr") _) _ _ _); ((refine chr_of_range (by omega) (by omega) ?_))) | ((with_reducible show wpAny _ _ (call (Value.builtin "chr") _) _ _ _); ((refine chr_of_range (by omega) (by omega) ?_)))) | walk1 | (dsimp only; walk1))
  refine LCg.CompEnd.intro F3 N3 nw (by rw [← hn3]; exact fun p hp => hp) off trivial ?_
  refine hJi _ _ _ (rfl) ?_
  rw [List.take_add_one, hci, Option.toList_some, List.map_append, List.map_append]
  exact strsAre_push hys
 ·intro ys nw hj
  rw [hJ, ← Array.length_toList, List.take_length] at hj
  refine an1 (hj) fun er2 hys => ?_
  try clear hj
  subst er2
  intro R h4 tk4 F4 N4 o1
  clear kF kN
  dsimp only
  replace N4 : News _ _ h4 ((R, listOf ys.toArray ys.length) :: nw) := N4
  have hl4 := News.isList N4 (.head _)
  repeat' first | (k_unfold; (try dsimp only)) | ((fail_if_success (with_reducible first | refine WG ?_ | refine FG ?_)); (fail_if_success first | (with_reducible show wpAny _ _ (call (Value.builtin "str.join") _ _) _ _ _)); first | walk1 | (dsimp only; walk1))
  refine join_K hl4 hys (by rw [List.length_map, Array.length_toList]; exact hb) (by intro l hl; obtain ⟨c, _, rfl⟩ := List.mem_map.mp hl; show 1 ≤ 100; decide) ?_
  intro t9 k9
  repeat' first | (k_unfold; (try dsimp only)) | ((fail_if_success (with_reducible first | refine WG ?_ | refine FG ?_)); (fail_if_success first | (with_reducible show wpAny _ _ (call (Value.builtin "str.join") _ _) _ _ _)); first | walk1 | (dsimp only; walk1))
  (with_reducible rename Fr _ _ _ _ => kF); (with_reducible rename News _ _ _ _ => kN)
  have e : (bs.toList.map fun c => [c.toNat]).flatten = bs.toList.map UInt8.toNat := by
   induction bs.toList with
   | nil => rfl
   | cons c l ih => rw [List.map_cons, List.flatten_cons, ih]; rfl
  rw [e]
  exact hret _ _ _ kF (fun p hp => kN p (.tail _ hp))
end
section
open PySem PySem.W PyProof.Rows PySem.Calls
variable {w : World} {mean : ExcName → Option Value} {mg mb : Str → Option Value} {dp un : Nat} {gd : Option (List Code)} {cn : Str} {cs : Scope} {a : Addr} {ccd : Value} {cl : List (Str × Addr)} {outer : List Env} {A₀ : Around} {base h₀ : Heap} {L : Addr} {m : Str → Option Value} {news : List (Addr × Obj)} {s : Shared} {Q E : Value → Shared → Prop}
theorem halves_spec {l : Addr} {vs : List Value} {ep : Nat} {os : List Nat} (B : Below A₀ base outer h₀) (F : Fr h₀ L s.heap m) (X : (Mine.hd.heap_39 w.params).In h₀) (N : News h₀ L s.heap news) (T : Top vw loose0 mean mg mb h₀) (hk : cs.kind = .function)
  (hd : dp + 39 < recursionLimit) (hu : un + 372 < cLine) (U : Uniq news) (hl : (l, listOf vs.toArray ep) ∈ news) (hv : IntsAre vs (os.map fun (c : Nat) => (c : Int))) (hos : ∀ o ∈ os, o < 256) (hol : os.length ≤ 6)
  (hret : ∀ t h' tk', Fr h₀ L h' m → News h₀ L h' news → Q (.str (mkS (hexE os)) t) { s with heap := h', toks := tk' }) :
  wpAny (model prg w) (ktrTop dp un gd cn cs L a ccd cl outer) (call (.ref 213) [.ref l]) Q E s := by
 refine wpAny_call ?_
 k_dflt (refine' code_defC ?k1u1 ?k2u1 ?k3u1 ?k4u1 ?k5u1 ?kAu1 ?kFu1 ?kKu1 ?k6u1 ?k7u1 ?k8u1 ?k9u1 ?kBu1 ?kDu1 ?_ ?c2u1 ?c3u1 ?c4u1; (case kAu1 => exact rfl); (case kFu1 => exact rfl); (case kKu1 => first | assumption | exact rfl); (case k1u1 => k_asm); (case k2u1 => k_asm); (case k3u1 => k_asm); (case k4u1 => k_asm); (case k5u1 => k_asm); (case k6u1 => k_is); (case k7u1 => k_is); (case k8u1 => ktr_room); (case k9u1 => first | exact BindsTo.of_eq rfl | exact binds_K (by k_in) rfl (by k_is) rfl rfl rfl | (refine' kp_binds ?kxu1 ?keu1; (case kxu1 => k_in); (case keu1 => exact fun _ => rfl))); (case kBu1 => exact rfl); (case kDu1 => decide +kernel); (case c2u1 => exact rfl); (case c3u1 => exact rfl); (case c4u1 => exact rfl); k_whole; intro _ _ _ _ _ _ _ zzN' zzY' zzB' _ _ zzl1; (try k_lt zzl1); k_cells zzY'; (try simp only [List.cons_append, List.nil_append] at zzN'); (try dsimp only); (try k_lift zzB'); (try k_fold))
 refine wpAny_noRaise ?_
 clear F N
 (with_reducible rename ∀ p ∈ news, p.1 < _ => l1)
 (with_reducible rename Fr _ _ _ _ => kF); (with_reducible rename News _ _ _ _ => kN)
 rename_i g2 L2 h2 tk2 FG2 X2 T2 o1 hd1
 have U2 : Uniq ((L2 + 1, o1) :: news) := U.cons (o := o1) (fun p hp => Nat.lt_succ_of_lt (l1 p hp))
 have hc : (L2 + 1, o1) ∈ (L2 + 1, o1) :: news := .head _
 generalize hn2 : (L2 + 1, o1) :: news = nw2 at kN U2 hc
 repeat' first | (k_unfold; (try dsimp only)) | ((fail_if_success (with_reducible first | refine WG ?_ | refine FG ?_)); (fail_if_success first | (with_reducible show LCg.CompSrc _ _ _ _ _ _ _ _ _ _ _ _ _ _) | (with_reducible show wpAny _ _ (call (Value.builtin "str.join") _ _) _ _ _) | (with_reducible show wpAny _ _ (subscriptTail _ _ (Value.str _ _) (Value.int _ _)) _ _ _)); first | ((with_reducible show wpAny _ _ (eval (Expr.ListComp _ _ _ _) _) _ _ _); (k_dflt (refine' LCg.ListComp_U (by k_asm) (by with_unfolding_all rfl) (by decide) (by rfl) (by decide) (by rfl) ?_ (by intro _; rfl)))) | ((with_reducible show wpAny _ _ (eval (Expr.Name _ _) (envOfC _ _ _ _ _)) _ _ _); k_dflt first | refine' nmL (by rfl) (by first | rfl | assumption) (by k_asm) (by first | exact Has.get (by with_reducible assumption) (by exact rfl) | exact rfl) ?_ | refine' nmC (by rfl) (by first | rfl | assumption) (by k_asm) (by rfl) (by k_mem) (by with_reducible assumption) ?_) | ((with_reducible refine execs_cons_gen ?_); intro _; (try dsimp only)) | walk1 | (dsimp only; walk1))
 (with_reducible rename Fr _ _ _ _ => kF); (with_reducible rename News _ _ _ _ => kN)
 (with_reducible rename Obj.data _ = Data.cell (some _) => hd2)
 rw [figS] at hd2
 rename_i o2 _
 have hl2 : (l, listOf vs.toArray ep) ∈ setL nw2 (L2 + 1) o2 := by
  refine mem_set_ne (by rw [← hn2]; exact .tail _ hl) ?_
  exact Nat.ne_of_lt (Nat.lt_succ_of_lt (l1 _ hl))
 have hc2 : (L2 + 1, o2) ∈ setL nw2 (L2 + 1) o2 := mem_set_self hc
 have hsub : ∀ p ∈ news, p ∈ setL nw2 (L2 + 1) o2 := fun p hp => mem_set_ne (by rw [← hn2]; exact .tail _ hp) (Nat.ne_of_lt (Nat.lt_succ_of_lt (l1 p hp)))
 clear hc U2 hn2 hd1
 generalize setL nw2 (L2 + 1) o2 = nw4 at kN hl2 hc2 hsub
 have hvl := hv.length
 rw [List.length_map] at hvl
 refine LCg.CompSrc.ledger rfl kF kN hl2 (by rw [sizeLine_eq, List.size_toArray]; omega) ?_
 intro g9
 clear kF kN
 refine letX3_0_2eio (fun i ys nw => nw = nw4 ∧ StrsAre ys (((os.take i).map fun o => [hexUp (o / 16), hexUp (o % 16)]).map mkS) : Nat → List Value → Ledger → Prop) (fun _ _ _ => .rfl) fun J hJ hJi hJo => ?_
 refine rest_inv J ?_ ?_ _ 0 [] nw4 (Nat.zero_add _) (by exact hJi _ _ _ (rfl) (.nil))
 ·intro i ys nw hi hj v I1 oI C1 oC D1 m₂ h3 tk3 E3 hPv hNs hmx F3 N3 off hne
  refine hJo _ _ _ hj _ fun ej1 hys => ?_
  clear hj
  subst ej1
  have hvi : vs[i]? = some v := by simpa using hPv
  refine oEEA (hv.at i v hvi) fun p tp er1 hp => ?_
  subst er1
  rw [List.getElem?_map] at hp
  refine oEA (Option.map_eq_some_iff.mp hp) fun o hoi er2 => ?_
  subst er2
  have ho := hos o (List.mem_of_getElem? hoi)
  have hC3 : (C1, oC) ∈ (I1, oI) :: (C1, oC) :: (D1, LCg.lst ys) :: nw := .tail _ (.head _)
  have hc3 : (L2 + 1, o2) ∈ (I1, oI) :: (C1, oC) :: (D1, LCg.lst ys) :: nw := .tail _ (.tail _ (.tail _ hc2))
  generalize hn3 : (I1, oI) :: (C1, oC) :: (D1, LCg.lst ys) :: nw = nw3 at N3 hC3 hc3
  repeat' first | (k_unfold; (try dsimp only)) | ((fail_if_success (with_reducible first | refine WG ?_ | refine FG ?_)); (fail_if_success first | (with_reducible show LCg.CompSrc _ _ _ _ _ _ _ _ _ _ _ _ _ _) | (with_reducible show wpAny _ _ (call (Value.builtin "str.join") _ _) _ _ _) | (with_reducible show wpAny _ _ (subscriptTail _ _ (Value.str _ _) (Value.int _ _)) _ _ _)); first | walk1 | (dsimp only; walk1))
  refine str_itemK rfl div16 (by show o / 16 < 16; omega) (by decide) ?_
  repeat' first | (k_unfold; (try dsimp only)) | ((fail_if_success (with_reducible first | refine WG ?_ | refine FG ?_)); (fail_if_success first | (with_reducible show LCg.CompSrc _ _ _ _ _ _ _ _ _ _ _ _ _ _) | (with_reducible show wpAny _ _ (call (Value.builtin "str.join") _ _) _ _ _) | (with_reducible show wpAny _ _ (subscriptTail _ _ (Value.str _ _) (Value.int _ _)) _ _ _)); first | walk1 | (dsimp only; walk1))
  refine str_itemK rfl mod16 (by show o % 16 < 16; omega) (by decide) ?_
  rw [figL_at _ (by omega), figL_at _ (by omega)]
  repeat' first | (k_unfold; (try dsimp only)) | ((fail_if_success (with_reducible first | refine WG ?_ | refine FG ?_)); (fail_if_success first | (with_reducible show LCg.CompSrc _ _ _ _ _ _ _ _ _ _ _ _ _ _) | (with_reducible show wpAny _ _ (call (Value.builtin "str.join") _ _) _ _ _) | (with_reducible show wpAny _ _ (subscriptTail _ _ (Value.str _ _) (Value.int _ _)) _ _ _)); first | walk1 | (dsimp only; walk1))
  refine LCg.CompEnd.intro F3 N3 nw (by rw [← hn3]; exact fun p hp => hp) off (.inr ⟨_, hl2, rfl, _, rfl⟩) ?_
  refine hJi _ _ _ (rfl) ?_
  rw [List.take_add_one, hoi, Option.toList_some, List.map_append, List.map_append, mkS_add]
  exact strsAre_push hys
 ·intro ys nw hj
  have e0 : vs.toArray.size = os.length := by rw [List.size_toArray]; omega
  rw [hJ, e0, List.take_length] at hj
  refine an1 (hj) fun er3 hys => ?_
  try clear hj
  subst er3
  intro R h4 tk4 F4 N4 o1
  dsimp only
  replace N4 : News _ _ h4 ((R, listOf ys.toArray ys.length) :: nw) := N4
  have hl4 := News.isList N4 (.head _)
  repeat' first | (k_unfold; (try dsimp only)) | ((fail_if_success (with_reducible first | refine WG ?_ | refine FG ?_)); (fail_if_success first | (with_reducible show LCg.CompSrc _ _ _ _ _ _ _ _ _ _ _ _ _ _) | (with_reducible show wpAny _ _ (call (Value.builtin "str.join") _ _) _ _ _) | (with_reducible show wpAny _ _ (subscriptTail _ _ (Value.str _ _) (Value.int _ _)) _ _ _)); first | walk1 | (dsimp only; walk1))
  refine join_K hl4 hys (by rw [List.length_map]; omega) (by intro l hl; obtain ⟨c, _, rfl⟩ := List.mem_map.mp hl; show 2 ≤ 100; decide) ?_
  intro t9 k9
  repeat' first | (k_unfold; (try dsimp only)) | ((fail_if_success (with_reducible first | refine WG ?_ | refine FG ?_)); (fail_if_success first | (with_reducible show LCg.CompSrc _ _ _ _ _ _ _ _ _ _ _ _ _ _) | (with_reducible show wpAny _ _ (call (Value.builtin "str.join") _ _) _ _ _) | (with_reducible show wpAny _ _ (subscriptTail _ _ (Value.str _ _) (Value.int _ _)) _ _ _)); first | walk1 | (dsimp only; walk1))
  (with_reducible rename Fr _ _ _ _ => kF); (with_reducible rename News _ _ _ _ => kN)
  have e : (os.map fun o => [hexUp (o / 16), hexUp (o % 16)]).flatten = hexE os := by rw [hexE, List.flatMap_def]
  rw [e]
  exact hret _ _ _ kF (fun p hp => kN p (.tail _ (hsub p hp)))
end
section
open PySem PySem.W PyProof.Rows PySem.Calls
variable {w : World} {mean : ExcName → Option Value} {mg mb : Str → Option Value} {dp un : Nat} {gd : Option (List Code)} {cn : Str} {cs : Scope} {a : Addr} {ccd : Value} {cl : List (Str × Addr)} {outer : List Env} {A₀ : Around} {base h₀ : Heap} {L : Addr} {m : Str → Option Value} {news : List (Addr × Obj)} {s : Shared} {Q E : Value → Shared → Prop}
theorem b64_spec {bs : Array UInt8} {tb : Tok} (B : Below A₀ base outer h₀) (F : Fr h₀ L s.heap m) (X : (Mine.hd.heap_39 w.params).In h₀) (N : News h₀ L s.heap news) (T : Top vw loose0 mean mg mb h₀) (hk : cs.kind = .function)
  (hd : dp + 39 < recursionLimit) (hu : un + 372 < cLine) (U : Uniq news) (hb : bs.size ≤ 6)
  (hret : ∀ t h' tk', Fr h₀ L h' m → News h₀ L h' news → Q (.bytes (bytesOf (encF (bs.toList.map UInt8.toNat))) t) { s with heap := h', toks := tk' }) :
  wpAny (model prg w) (ktrTop dp un gd cn cs L a ccd cl outer) (call (.ref 74) [.bytes bs tb]) Q E s := by
 refine wpAny_call ?_
 k_dflt (refine' code_def ?k1u1 ?k2u1 ?k3u1 ?k4u1 ?k5u1 ?kAu1 ?kFu1 ?kKu1 ?k6u1 ?k7u1 ?k8u1 ?k9u1 ?kBu1 ?_ ?c2u1 ?c3u1 ?c4u1 ?c5u1; (case kAu1 => exact rfl); (case kFu1 => exact rfl); (case kKu1 => first | assumption | exact rfl); (case k1u1 => k_asm); (case k2u1 => k_asm); (case k3u1 => k_asm); (case k4u1 => k_asm); (case k5u1 => k_asm); (case k6u1 => k_is); (case k7u1 => k_is); (case k8u1 => ktr_room); (case k9u1 => first | exact BindsTo.of_eq rfl | exact binds_K (by k_in) rfl (by k_is) rfl rfl rfl | (refine' kp_binds ?kxu1 ?keu1; (case kxu1 => k_in); (case keu1 => exact fun _ => rfl))); (case c5u1 => decide); (case kBu1 => exact locs rfl); (case c2u1 => exact rfl); (case c3u1 => exact rfl); (case c4u1 => exact rfl); k_whole; intro _ _ _ _ _ _ zzB' _ _; (try dsimp only); (try k_lift zzB'); (try k_fold))
 refine wpAny_noRaise ?_
 clear F N
 repeat' first | (k_unfold; (try dsimp only)) | ((fail_if_success (with_reducible first | refine WG ?_ | refine FG ?_)); (fail_if_success first | (with_reducible show wpAny _ _ (subscriptTail _ _ (Value.bytes _ _) (Value.int _ _)) _ _ _) | (with_reducible show wpAny _ _ (call (Value.type "bytes") _ _) _ _ _) | ((have _ := (by with_reducible assumption : Stopper)); with_reducible show wpAny _ _ (exec (Stmt.If _ _ _ _) _) _ _ _)); first | (first | with_reducible ((with_reducible show wpAny _ _ (call _ [Value.bytes _ _]) _ _ _); refine call_type_of (Tx := "bytes") rfl (by decide +kernel) ?_) | ((with_reducible show wpAny _ _ (call _ [Value.bytes _ _]) _ _ _); refine call_type_of (Tx := "bytes") rfl (by decide +kernel) ?_)) | ((with_reducible show wpAny _ _ (eval (Expr.Name _ _) _) _ _ _); k_dflt refine' ld (by k_asm) (by first | exact Has.get (by with_reducible assumption) (by exact rfl) | exact rfl) ?_) | ((with_reducible refine execs_cons_gen ?_); intro _; (try dsimp only)) | walk1 | (dsimp only; walk1))
 refine wpAny_noRaise ?_
 (with_reducible rename ∀ p ∈ news, p.1 < _ => l1)
 (with_reducible rename Fr _ _ _ _ => kF); (with_reducible rename News _ _ _ _ => kN)
 refine For_enter ?_
 repeat' first | (k_unfold; (try dsimp only)) | ((fail_if_success (with_reducible first | refine WG ?_ | refine FG ?_)); (fail_if_success first | (with_reducible show wpAny _ _ (subscriptTail _ _ (Value.bytes _ _) (Value.int _ _)) _ _ _) | (with_reducible show wpAny _ _ (call (Value.type "bytes") _ _) _ _ _) | ((have _ := (by with_reducible assumption : Stopper)); with_reducible show wpAny _ _ (exec (Stmt.If _ _ _ _) _) _ _ _)); first | ((with_reducible show wpAny _ _ (eval (Expr.Name _ _) _) _ _ _); k_dflt refine' ld (by k_asm) (by first | exact Has.get (by with_reducible assumption) (by exact rfl) | exact rfl) ?_) | walk1 | (dsimp only; walk1))
 (with_reducible rename Fr _ _ _ _ => kF); (with_reducible rename News _ _ _ _ => kN)
 rename_i D0 _ _ _ _ _ _ _
 have hD0 : ∀ p ∈ news, p.1 ≠ D0 := fun p hp => Nat.ne_of_lt (l1 p hp)
 refine ex1 ((⟨_, rfl⟩ : ∃ os : List Nat, os = bs.toList.map UInt8.toNat)) fun os hos => ?_
 refine letX3_4_6eio (fun i m₁ nw => ∃ vs ep t1 t2, nw = (D0, listOf (List.toArray vs) ep) :: news ∧ IntsAre vs ((encS (os.take i)).2.2.map fun (c : Nat) => (c : Int)) ∧ Has m₁ (Str.ofString "leftchar") (.int ((encS (os.take i)).2.1 : Nat) t1) ∧ Has m₁ (Str.ofString "leftbits") (.int ((encS (os.take i)).1 : Nat) t2) ∧ Has m₁ (Str.ofString "out") (.ref D0) ∧ Has m₁ (Str.ofString "newline") (.bool false) : Nat → FMap → Ledger → Prop) (fun _ _ _ => .rfl) fun J hJ hJi hJo => ?_
 refine ForAt_bytes J (by rfl) kF kN ?_ ?_ ?_
 ·exact hJi _ _ _ ([]) (0) _ _ (rfl) (.nil) (⟨rfl⟩) (⟨rfl⟩) (⟨rfl⟩) (⟨rfl⟩)
 ·intro i c t m₁ nw h₁ tk₁ I' it hc hj hne F₁ N₁
  dsimp only [envOf] at F₁ N₁
  refine hJo _ _ _ hj _ fun vs ep t1 t2 ej1 hvI m1 m2 m3 m4 => ?_
  clear hj
  subst ej1
  have hoi : os[i]? = some c.toNat := by
   rw [hos, List.getElem?_map]
   have : bs.toList[i]? = some c := by simpa using hc
   rw [this]; rfl
  have hc256 : c.toNat < 256 := c.toNat_lt
  have hst : encS (os.take (i + 1)) = stepE (encS (os.take i)) c.toNat := by
   rw [List.take_add_one, hoi]; exact encS_snoc _ _
  have hlb := encS_lb (os.take i)
  have hlc := encS_lc (os.take i)
  have hout := encS_len _ (os.take i) rfl
  have hti : (os.take i).length ≤ 6 := by rw [List.length_take, hos, List.length_map, Array.length_toList]; omega
  generalize encS (os.take i) = st at hvI m1 m2 hst hlb hlc hout
  obtain ⟨lb, lc, out⟩ := st
  dsimp only at hvI m1 m2 hlb hlc hout
  clear kF kN
  generalize hcc : c.toNat = b at *
  have hD3 : (D0, listOf vs.toArray ep) ∈ (I', it) :: (D0, listOf vs.toArray ep) :: news := .tail _ (.head _)
  have U3 : Uniq ((I', it) :: (D0, listOf vs.toArray ep) :: news) := (U.cons_ne hD0).cons_ne hne
  generalize hn3 : (I', it) :: (D0, listOf vs.toArray ep) :: news = nw3 at N₁ hD3 U3
  repeat' first | (k_unfold; (try dsimp only)) | ((fail_if_success (with_reducible first | refine WG ?_ | refine FG ?_)); (fail_if_success first | (with_reducible show wpAny _ _ (subscriptTail _ _ (Value.bytes _ _) (Value.int _ _)) _ _ _) | (with_reducible show wpAny _ _ (call (Value.type "bytes") _ _) _ _ _) | ((have _ := (by with_reducible assumption : Stopper)); with_reducible show wpAny _ _ (exec (Stmt.If _ _ _ _) _) _ _ _)); first | ((with_reducible show wpAny _ _ (eval (Expr.Name _ _) _) _ _ _); k_dflt refine' ld (by k_asm) (by first | exact Has.get (by with_reducible assumption) (by exact rfl) | exact rfl) ?_) | ((with_reducible refine execs_cons_gen ?_); intro _; (try dsimp only)) | walk1 | (dsimp only; walk1))
  (with_reducible rename Fr _ _ _ _ => kF); (with_reducible rename News _ _ _ _ => kN)
  have hIl : I' ≠ D0 := fun e => hne _ (.head _) e.symm
  have hlcs := lc_step (lc := lc) hc256
  refine ex1 ((⟨_, rfl⟩ : ∃ lc', lc' = (lc * 256 + b) % 65536)) fun lc' hlc' => ?_
  have hlc3 : lc' < 65536 := by rw [hlc']; exact Nat.mod_lt _ (by decide)
  rw [← hlc'] at hlcs
  refine letX3_5_9eo (fun n m₂ nw => ∃ vs' ep' o' t1 t2, nw = (I', it) :: (D0, listOf (List.toArray vs') ep') :: news ∧ IntsAre vs' (o'.map fun (c : Nat) => (c : Int)) ∧ o' ++ emits lc' n = out ++ emits lc' (lb + 8) ∧ n % 6 = (lb + 8) % 6 ∧ n ≤ 13 ∧ Has m₂ (Str.ofString "leftchar") (.int (lc' : Nat) t1) ∧ Has m₂ (Str.ofString "leftbits") (.int (n : Nat) t2) ∧ Has m₂ (Str.ofString "out") (.ref D0) ∧ Has m₂ (Str.ofString "newline") (.bool false) : Nat → FMap → Ledger → Prop) (fun _ _ _ => .rfl) fun J2 hJ2 hJ2o => ?_
  refine letX2_4_6eo (fun m₂ nw => ∃ vs' ep' t1 t2, nw = (I', it) :: (D0, listOf (List.toArray vs') ep') :: news ∧ IntsAre vs' ((out ++ emits lc' (lb + 8)).map fun (c : Nat) => (c : Int)) ∧ Has m₂ (Str.ofString "leftchar") (.int (lc' : Nat) t1) ∧ Has m₂ (Str.ofString "leftbits") (.int ((lb + 8) % 6 : Nat) t2) ∧ Has m₂ (Str.ofString "out") (.ref D0) ∧ Has m₂ (Str.ofString "newline") (.bool false) : FMap → Ledger → Prop) (fun _ _ => .rfl) fun P2 hP2 hP2o => ?_
  refine While_cut (s := ⟨_, _, _, _, _⟩) (n₀ := lb + 8) J2 P2 kF kN ?_ ?_ ?_
  ·rw [hJ2]
   dsimp only
   rw [← hlcs]
   exact ⟨vs, ep, out, _, _, hn3.symm, hvI, rfl, rfl, by omega, ⟨rfl⟩, ⟨rfl⟩, ⟨m3.out⟩, ⟨m4.out⟩⟩
  ·intro n m₂ nw h₂ tk₂ F₂ N₂ hj
   refine hJ2o _ _ _ hj _ fun vs' ep' o' t3 t4 ej2 hvI' hem hmod hn13 k1 k2 k3 k4 => ?_
   clear hj
   subst ej2
   clear kF kN m1 m2 m3 m4 hD3 U3
   have hD4 : (D0, listOf vs'.toArray ep') ∈ (I', it) :: (D0, listOf vs'.toArray ep') :: news := .tail _ (.head _)
   have U4 : Uniq ((I', it) :: (D0, listOf vs'.toArray ep') :: news) := (U.cons_ne hD0).cons_ne (List.forall_mem_cons.mpr ⟨Ne.symm hIl, fun p hp => hne p (.tail _ hp)⟩)
   generalize hn4 : (I', it) :: (D0, listOf vs'.toArray ep') :: news = nw4 at N₂ hD4 U4
   have hul : vs'.toArray.size ≤ sizeLine := by
    have h1 := congrArg List.length hem
    have h2 := hvI'.length
    rw [List.length_append, List.length_append, emits_len, emits_len] at h1
    rw [List.length_map] at h2
    rw [sizeLine_eq, List.size_toArray]
    omega
   repeat' first | (k_unfold; (try dsimp only)) | ((fail_if_success (with_reducible first | refine WG ?_ | refine FG ?_)); (fail_if_success first | (with_reducible show wpAny _ _ (subscriptTail _ _ (Value.bytes _ _) (Value.int _ _)) _ _ _) | (with_reducible show wpAny _ _ (call (Value.type "bytes") _ _) _ _ _) | ((have _ := (by with_reducible assumption : Stopper)); with_reducible show wpAny _ _ (exec (Stmt.If _ _ _ _) _) _ _ _)); first | ((with_reducible show wpAny _ _ (eval (Expr.Name _ _) _) _ _ _); k_dflt refine' ld (by k_asm) (by first | exact Has.get (by with_reducible assumption) (by exact rfl) | exact rfl) ?_) | ((with_reducible refine execs_cons_gen ?_); intro _; (try dsimp only)) | walk1 | (dsimp only; walk1))
   ·(with_reducible rename (6 : Int) ≤ _ => hn6)
    refine b64_item (idx_shift (by omega)) (Nat.mod_lt _ (by decide)) ?_
    repeat' first | (k_unfold; (try dsimp only)) | ((fail_if_success (with_reducible first | refine WG ?_ | refine FG ?_)); (fail_if_success first | (with_reducible show wpAny _ _ (subscriptTail _ _ (Value.bytes _ _) (Value.int _ _)) _ _ _) | (with_reducible show wpAny _ _ (call (Value.type "bytes") _ _) _ _ _) | ((have _ := (by with_reducible assumption : Stopper)); with_reducible show wpAny _ _ (exec (Stmt.If _ _ _ _) _) _ _ _)); first | ((with_reducible show wpAny _ _ (eval (Expr.Name _ _) _) _ _ _); k_dflt refine' ld (by k_asm) (by first | exact Has.get (by with_reducible assumption) (by exact rfl) | exact rfl) ?_) | ((with_reducible refine execs_cons_gen ?_); intro _; (try dsimp only)) | ((with_reducible refine execs_nil_gen ?_); intro _; (try dsimp only)) | walk1 | (dsimp only; walk1))
    (with_reducible rename Fr _ _ _ _ => kF); (with_reducible rename News _ _ _ _ => kN)
    rw [List.push_toArray, ← hn4, setL_cons, if_neg hIl, setL_cons, if_pos rfl, setL_off hD0] at kN
    refine WPost.next kF kN (n' := n - 6) (by omega) ?_
    rw [hJ2]
    dsimp only
    have e6 : ((n - 6 : Nat) : Int) = (n : Int) - 6 := by omega
    rw [e6]
    refine ⟨_, _, o' ++ [b64C (lc' / 2 ^ (n - 6) % 64)], t3, _, rfl, ?_, ?_, by omega, by omega, ⟨k1.out⟩, ⟨rfl⟩, ⟨k3.out⟩, ⟨k4.out⟩⟩
    ·rw [List.map_append]; exact intsAre_push hvI'
    ·rw [List.append_assoc, ← hem, emits_ge (lb := n) (by omega)]; rfl
   ·(with_reducible rename ¬ ((6 : Int) ≤ _) => hn6)
    refine Cut.mk F₂ N₂ ?_
    rw [hP2]
    have hlt : n < 6 := by omega
    rw [emits_lt hlt, List.append_nil] at hem
    rw [hem] at hvI'
    have e6 : n = (lb + 8) % 6 := by omega
    rw [e6] at k2
    exact ⟨vs', ep', t3, t4, hn4.symm, hvI', k1, k2, k3, k4⟩
  ·intro m₂ nw h₂ tk₂ F₂ N₂ hp
   refine hP2o _ _ hp _ fun vs' ep' t3 t4 ej3 hvI' k1 k2 k3 k4 => ?_
   clear hp
   subst ej3
   clear kF kN m1 m2 m3 m4 hD3 U3
   dsimp only
   repeat' first | (k_unfold; (try dsimp only)) | ((fail_if_success (with_reducible first | refine WG ?_ | refine FG ?_)); (fail_if_success first | (with_reducible show wpAny _ _ (subscriptTail _ _ (Value.bytes _ _) (Value.int _ _)) _ _ _) | (with_reducible show wpAny _ _ (call (Value.type "bytes") _ _) _ _ _) | ((have _ := (by with_reducible assumption : Stopper)); with_reducible show wpAny _ _ (exec (Stmt.If _ _ _ _) _) _ _ _)); first | ((with_reducible refine execs_nil_gen ?_); intro _; (try dsimp only)) | walk1 | (dsimp only; walk1))
   (with_reducible rename Fr _ _ _ _ => kF); (with_reducible rename News _ _ _ _ => kN)
   refine FPost.next kF kN (List.forall_mem_cons.mpr ⟨Ne.symm hIl, fun p hp => hne p (.tail _ hp)⟩) ?_
   rw [hJ]
   try dsimp only
   rw [hst]
   refine ⟨vs', ep', t3, t4, rfl, ?_, ⟨?_⟩, ⟨k2.out⟩, ⟨k3.out⟩, ⟨k4.out⟩⟩
   ·unfold stepE; dsimp only; rw [← hlc']; exact hvI'
   ·unfold stepE; dsimp only; rw [← hlc']; exact k1.out
 ·intro m₁ nw h₁ tk₁ hj F₁ N₁
  dsimp only [envOf] at F₁ N₁
  rw [hJ] at hj
  have hol : os.length = bs.size := by rw [hos, List.length_map, Array.length_toList]
  rw [← hol, List.take_length] at hj
  refine oEEEEAAAAA (hj) fun vs ep t1 t2 er1 hvI m1 m2 m3 m4 => ?_
  try clear hj
  subst er1
  rw [← hos] at hret
  have hby := encS_byte _ os rfl
  have hout := encS_len _ os rfl
  have hlc := encS_lc os
  have hlb := encS_lb os
  clear kF kN
  have hE : encF os = (if (encS os).1 = 2 then (encS os).2.2 ++ [b64C ((encS os).2.1 % 4 * 16), 61, 61] else if (encS os).1 = 4 then (encS os).2.2 ++ [b64C ((encS os).2.1 % 16 * 4), 61] else (encS os).2.2) := rfl
  generalize encS os = st at hvI m1 m2 hE hby hout hlc hlb
  obtain ⟨lb, lc, out⟩ := st
  dsimp only at hvI m1 m2 hE hby hout hlc hlb
  have hul : vs.toArray.size ≤ sizeLine := by
   have h2 := hvI.length
   rw [List.length_map] at h2
   rw [sizeLine_eq, List.size_toArray]
   omega
  have st1 : Stopper := trivial
  dsimp only
  repeat' first | (k_unfold; (try dsimp only)) | ((fail_if_success (with_reducible first | refine WG ?_ | refine FG ?_)); (fail_if_success first | (with_reducible show wpAny _ _ (subscriptTail _ _ (Value.bytes _ _) (Value.int _ _)) _ _ _) | (with_reducible show wpAny _ _ (call (Value.type "bytes") _ _) _ _ _) | ((have _ := (by with_reducible assumption : Stopper)); with_reducible show wpAny _ _ (exec (Stmt.If _ _ _ _) _) _ _ _)); first | ((with_reducible refine execs_cons_gen ?_); intro _; (try dsimp only)) | ((with_reducible refine execs_nil_gen ?_); intro _; (try dsimp only)) | walk1 | (dsimp only; walk1))
  clear st1
  refine letX2_2_4eo (fun m₂ nw => ∃ vs' ep', nw = (D0, listOf (List.toArray vs') ep') :: news ∧ IntsAre vs' ((encF os).map fun (c : Nat) => (c : Int)) ∧ Has m₂ (Str.ofString "out") (.ref D0) ∧ Has m₂ (Str.ofString "newline") (.bool false) : FMap → Ledger → Prop) (fun _ _ => .rfl) fun P3 hP3 hP3o => ?_
  refine wpAny_noRaise ?_
  refine Stmt_cut (s := ⟨_, _, _, _, _⟩) P3 F₁ ?_ ?_
  ·repeat' first | (k_unfold; (try dsimp only)) | ((fail_if_success (with_reducible first | refine WG ?_ | refine FG ?_)); (fail_if_success first | (with_reducible show wpAny _ _ (subscriptTail _ _ (Value.bytes _ _) (Value.int _ _)) _ _ _) | (with_reducible show wpAny _ _ (call (Value.type "bytes") _ _) _ _ _) | ((have _ := (by with_reducible assumption : Stopper)); with_reducible show wpAny _ _ (exec (Stmt.If _ _ _ _) _) _ _ _)); first | ((with_reducible show wpAny _ _ (binaryOp Operator.LShift (Value.int _ _) (Value.int _ _)) _ _ _); (k_dflt (refine' lshift_int_small (by decide) (by decide) (by (simp only [bitAnd_m2, bitAnd_m4]; omega)) ?_))) | ((with_reducible show wpAny _ _ (eval (Expr.Name _ _) _) _ _ _); k_dflt refine' ld (by k_asm) (by first | exact Has.get (by with_reducible assumption) (by exact rfl) | exact rfl) ?_) | ((with_reducible refine execs_cons_gen ?_); intro _; (try dsimp only)) | ((with_reducible refine execs_nil_gen ?_); intro _; (try dsimp only)) | walk1 | (dsimp only; walk1))
   ·(with_reducible rename (lb : Int) = 2 => q1)
    refine b64_item idx_two (by omega) ?_
    repeat' first | (k_unfold; (try dsimp only)) | ((fail_if_success (with_reducible first | refine WG ?_ | refine FG ?_)); (fail_if_success first | (with_reducible show wpAny _ _ (subscriptTail _ _ (Value.bytes _ _) (Value.int _ _)) _ _ _) | (with_reducible show wpAny _ _ (call (Value.type "bytes") _ _) _ _ _) | ((have _ := (by with_reducible assumption : Stopper)); with_reducible show wpAny _ _ (exec (Stmt.If _ _ _ _) _) _ _ _)); first | ((with_reducible show wpAny _ _ (eval (Expr.Name _ _) _) _ _ _); k_dflt refine' ld (by k_asm) (by first | exact Has.get (by with_reducible assumption) (by exact rfl) | exact rfl) ?_) | ((with_reducible refine execs_cons_gen ?_); intro _; (try dsimp only)) | walk1 | (dsimp only; walk1))
    (with_reducible rename Fr _ _ _ _ => kF); (with_reducible rename News _ _ _ _ => kN)
    refine oEA (step_push hvI kN) fun vs1 hI1 kN1 => ?_
    clear kN
    have hul1 : vs1.toArray.size ≤ sizeLine := by
     have h2 := hI1.length
     rw [List.length_map, List.length_append] at h2
     rw [sizeLine_eq, List.size_toArray]
     simp at h2; omega
    repeat' first | (k_unfold; (try dsimp only)) | ((fail_if_success (with_reducible first | refine WG ?_ | refine FG ?_)); (fail_if_success first | (with_reducible show wpAny _ _ (subscriptTail _ _ (Value.bytes _ _) (Value.int _ _)) _ _ _) | (with_reducible show wpAny _ _ (call (Value.type "bytes") _ _) _ _ _) | ((have _ := (by with_reducible assumption : Stopper)); with_reducible show wpAny _ _ (exec (Stmt.If _ _ _ _) _) _ _ _)); first | ((with_reducible show wpAny _ _ (eval (Expr.Name _ _) _) _ _ _); k_dflt refine' ld (by k_asm) (by first | exact Has.get (by with_reducible assumption) (by exact rfl) | exact rfl) ?_) | ((with_reducible refine execs_cons_gen ?_); intro _; (try dsimp only)) | walk1 | (dsimp only; walk1))
    (with_reducible rename Fr _ _ _ _ => kF); (with_reducible rename News _ _ _ _ => kN)
    refine oEA (step_push (c := 61) hI1 kN) fun vs2 hI2 kN2 => ?_
    clear kN
    have hul2 : vs2.toArray.size ≤ sizeLine := by
     have h2 := hI2.length
     rw [List.length_map, List.length_append, List.length_append] at h2
     rw [sizeLine_eq, List.size_toArray]
     simp at h2; omega
    repeat' first | (k_unfold; (try dsimp only)) | ((fail_if_success (with_reducible first | refine WG ?_ | refine FG ?_)); (fail_if_success first | (with_reducible show wpAny _ _ (subscriptTail _ _ (Value.bytes _ _) (Value.int _ _)) _ _ _) | (with_reducible show wpAny _ _ (call (Value.type "bytes") _ _) _ _ _) | ((have _ := (by with_reducible assumption : Stopper)); with_reducible show wpAny _ _ (exec (Stmt.If _ _ _ _) _) _ _ _)); first | ((with_reducible refine execs_nil_gen ?_); intro _; (try dsimp only)) | walk1 | (dsimp only; walk1))
    (with_reducible rename Fr _ _ _ _ => kF); (with_reducible rename News _ _ _ _ => kN)
    refine oEA (step_push (c := 61) hI2 kN) fun vs3 hI3 kN3 => ?_
    refine Cut.mk kF kN3 ?_
    rw [hP3, hE, if_pos (by omega)]
    exact ⟨vs3, _, rfl, by simpa using hI3, m3, m4⟩
   ·(with_reducible rename (lb : Int) = 4 => q1)
    refine b64_item idx_four (by omega) ?_
    repeat' first | (k_unfold; (try dsimp only)) | ((fail_if_success (with_reducible first | refine WG ?_ | refine FG ?_)); (fail_if_success first | (with_reducible show wpAny _ _ (subscriptTail _ _ (Value.bytes _ _) (Value.int _ _)) _ _ _) | (with_reducible show wpAny _ _ (call (Value.type "bytes") _ _) _ _ _) | ((have _ := (by with_reducible assumption : Stopper)); with_reducible show wpAny _ _ (exec (Stmt.If _ _ _ _) _) _ _ _)); first | ((with_reducible show wpAny _ _ (eval (Expr.Name _ _) _) _ _ _); k_dflt refine' ld (by k_asm) (by first | exact Has.get (by with_reducible assumption) (by exact rfl) | exact rfl) ?_) | ((with_reducible refine execs_cons_gen ?_); intro _; (try dsimp only)) | walk1 | (dsimp only; walk1))
    (with_reducible rename Fr _ _ _ _ => kF); (with_reducible rename News _ _ _ _ => kN)
    refine oEA (step_push hvI kN) fun vs1 hI1 kN1 => ?_
    clear kN
    have hul1 : vs1.toArray.size ≤ sizeLine := by
     have h2 := hI1.length
     rw [List.length_map, List.length_append] at h2
     rw [sizeLine_eq, List.size_toArray]
     simp at h2; omega
    repeat' first | (k_unfold; (try dsimp only)) | ((fail_if_success (with_reducible first | refine WG ?_ | refine FG ?_)); (fail_if_success first | (with_reducible show wpAny _ _ (subscriptTail _ _ (Value.bytes _ _) (Value.int _ _)) _ _ _) | (with_reducible show wpAny _ _ (call (Value.type "bytes") _ _) _ _ _) | ((have _ := (by with_reducible assumption : Stopper)); with_reducible show wpAny _ _ (exec (Stmt.If _ _ _ _) _) _ _ _)); first | ((with_reducible refine execs_nil_gen ?_); intro _; (try dsimp only)) | walk1 | (dsimp only; walk1))
    (with_reducible rename Fr _ _ _ _ => kF); (with_reducible rename News _ _ _ _ => kN)
    refine oEA (step_push (c := 61) hI1 kN) fun vs2 hI2 kN2 => ?_
    refine Cut.mk kF kN2 ?_
    rw [hP3, hE, if_neg (by omega), if_pos (by omega)]
    exact ⟨vs2, _, rfl, by simpa using hI2, m3, m4⟩
   ·(with_reducible rename (lb : Int) ≠ 4 => q1)
    (with_reducible rename (lb : Int) ≠ 2 => q2)
    (with_reducible rename Fr _ _ _ _ => kF); (with_reducible rename News _ _ _ _ => kN)
    refine Cut.mk kF kN ?_
    rw [hP3, hE, if_neg (by omega), if_neg (by omega)]
    exact ⟨vs, _, rfl, hvI, m3, m4⟩
  ·intro m₂ nw h₂ tk₂ F₂ N₂ hp
   refine hP3o _ _ hp _ fun vs' ep' ej4 hvI' k3 k4 => ?_
   clear hp
   subst ej4
   clear F₁ N₁ m1 m2 m3 m4
   dsimp only
   repeat' first | (k_unfold; (try dsimp only)) | ((fail_if_success (with_reducible first | refine WG ?_ | refine FG ?_)); (fail_if_success first | (with_reducible show wpAny _ _ (subscriptTail _ _ (Value.bytes _ _) (Value.int _ _)) _ _ _) | (with_reducible show wpAny _ _ (call (Value.type "bytes") _ _) _ _ _) | ((have _ := (by with_reducible assumption : Stopper)); with_reducible show wpAny _ _ (exec (Stmt.If _ _ _ _) _) _ _ _)); first | ((with_reducible show wpAny _ _ (eval (Expr.Name _ _) _) _ _ _); k_dflt refine' ld (by k_asm) (by first | exact Has.get (by with_reducible assumption) (by exact rfl) | exact rfl) ?_) | ((with_reducible refine execs_cons_gen ?_); intro _; (try dsimp only)) | ((with_reducible refine execs_nil_gen ?_); intro _; (try dsimp only)) | walk1 | (dsimp only; walk1))
   (with_reducible rename Fr _ _ _ _ => kF); (with_reducible rename News _ _ _ _ => kN)
   refine bytes_K kF kN (News.isList kN (.head _)) hvI' (fun n hn => ?_) ?_ rfl ?_
   ·refine oEA (List.mem_map.mp hn) fun c hc er2 => ?_
    subst er2
    have := encF_byte os c hc
    omega
   ·have h2 := hvI'.length
    have h3 := encF_len os
    rw [List.length_map] at h2
    rw [sizeLine_eq]; omega
   ·intro h9 t9 k9 F9 N9 _
    rw [bytesOf_ints]
    clear kF kN
    repeat' first | (k_unfold; (try dsimp only)) | ((fail_if_success (with_reducible first | refine WG ?_ | refine FG ?_)); (fail_if_success first | (with_reducible show wpAny _ _ (subscriptTail _ _ (Value.bytes _ _) (Value.int _ _)) _ _ _) | (with_reducible show wpAny _ _ (call (Value.type "bytes") _ _) _ _ _) | ((have _ := (by with_reducible assumption : Stopper)); with_reducible show wpAny _ _ (exec (Stmt.If _ _ _ _) _) _ _ _)); first | ((with_reducible show wpAny _ _ (eval (Expr.Name _ _) _) _ _ _); k_dflt refine' ld (by k_asm) (by first | exact Has.get (by with_reducible assumption) (by exact rfl) | exact rfl) ?_) | ((with_reducible refine execs_cons_gen ?_); intro _; (try dsimp only)) | ((with_reducible refine execs_nil_gen ?_); intro _; (try dsimp only)) | walk1 | (dsimp only; walk1))
    (with_reducible rename Fr _ _ _ _ => kF); (with_reducible rename News _ _ _ _ => kN)
    exact hret _ _ _ kF (fun p hp => kN p (.tail _ hp))
end
section
open PySem PySem.W PyProof.Rows PySem.Calls
variable {w : World} {mean : ExcName → Option Value} {mg mb : Str → Option Value} {dp un : Nat} {gd : Option (List Code)} {cn : Str} {cs : Scope} {a : Addr} {ccd : Value} {cl : List (Str × Addr)} {outer : List Env} {A₀ : Around} {base h₀ : Heap} {L : Addr} {m : Str → Option Value} {news : List (Addr × Obj)} {s : Shared} {Q E : Value → Shared → Prop}
theorem b16_spec {bs : Array UInt8} {tb : Tok} (B : Below A₀ base outer h₀) (F : Fr h₀ L s.heap m) (X : (Mine.hd.heap_39 w.params).In h₀) (N : News h₀ L s.heap news) (T : Top vw loose0 mean mg mb h₀) (hk : cs.kind = .function)
  (hd : dp + 39 < recursionLimit) (hu : un + 372 < cLine) (hb : bs.size ≤ 6) (hb1 : 1 ≤ bs.size)
  (hret : ∀ t h' tk', Fr h₀ L h' m → News h₀ L h' news → Q (.bytes (bytesOf (hexE (bs.toList.map UInt8.toNat))) t) { s with heap := h', toks := tk' }) :
  wpAny (model prg w) (ktrTop dp un gd cn cs L a ccd cl outer) (call (.ref 81) [.bytes bs tb]) Q E s := by
 refine wpAny_call ?_
 k_dflt (refine' code_def ?k1u1 ?k2u1 ?k3u1 ?k4u1 ?k5u1 ?kAu1 ?kFu1 ?kKu1 ?k6u1 ?k7u1 ?k8u1 ?k9u1 ?kBu1 ?_ ?c2u1 ?c3u1 ?c4u1 ?c5u1; (case kAu1 => exact rfl); (case kFu1 => exact rfl); (case kKu1 => first | assumption | exact rfl); (case k1u1 => k_asm); (case k2u1 => k_asm); (case k3u1 => k_asm); (case k4u1 => k_asm); (case k5u1 => k_asm); (case k6u1 => k_is); (case k7u1 => k_is); (case k8u1 => ktr_room); (case k9u1 => first | exact BindsTo.of_eq rfl | exact binds_K (by k_in) rfl (by k_is) rfl rfl rfl | (refine' kp_binds ?kxu1 ?keu1; (case kxu1 => k_in); (case keu1 => exact fun _ => rfl))); (case c5u1 => decide); (case kBu1 => exact locs rfl); (case c2u1 => exact rfl); (case c3u1 => exact rfl); (case c4u1 => exact rfl); k_whole; intro _ _ _ _ _ _ zzB' _ _; (try dsimp only); (try k_lift zzB'); (try k_fold))
 refine wpAny_noRaise ?_
 clear F N
 have hsz : bs.toList.length = bs.size := Array.length_toList
 have hl := hex_len bs.toList
 have k1 : 2 ≤ (bs.toList.flatMap fun c => [hexD (c.toNat / 16), hexD (c.toNat % 16)]).length := by omega
 have k2 : (bs.toList.flatMap fun c => [hexD (c.toNat / 16), hexD (c.toNat % 16)]).length ≤ 1000 := by omega
 have k3 := hex_small bs.toList
 have k4 : (bytesOf (bs.toList.flatMap fun c => [hexD (c.toNat / 16), hexD (c.toNat % 16)])).size ≤ 1000 := by unfold bytesOf; rw [List.size_toArray, List.length_map]; omega
 repeat' first | (k_unfold; (try dsimp only)) | ((fail_if_success (with_reducible first | refine WG ?_ | refine FG ?_)); first | (first | with_reducible ((with_reducible show wpAny _ _ (call _ [Value.bytes _ _]) _ _ _); refine call_type_of (Tx := "bytes") rfl (by decide +kernel) ?_) | ((with_reducible show wpAny _ _ (call _ [Value.bytes _ _]) _ _ _); refine call_type_of (Tx := "bytes") rfl (by decide +kernel) ?_)) | (first | with_reducible ((with_reducible show wpAny _ _ (call (Value.builtin "str.encode") _) _ _ _); ((refine call_encode (by with_reducible assumption) (by with_reducible assumption) (by with_reducible assumption) ?_); intro _ _)) | ((with_reducible show wpAny _ _ (call (Value.builtin "str.encode") _) _ _ _); ((refine call_encode (by with_reducible assumption) (by with_reducible assumption) (by with_reducible assumption) ?_); intro _ _))) | (first | with_reducible ((with_reducible show wpAny _ _ (call (Value.builtin "bytes.upper") _) _ _ _); ((refine call_upper (by with_reducible assumption) ?_); intro _ _)) | ((with_reducible show wpAny _ _ (call (Value.builtin "bytes.upper") _) _ _ _); ((refine call_upper (by with_reducible assumption) ?_); intro _ _))) | (first | with_reducible ((with_reducible show wpAny _ _ (call (Value.builtin "bytes.hex") _) _ _ _); ((refine call_hex (by omega) ?_); intro _ _)) | ((with_reducible show wpAny _ _ (call (Value.builtin "bytes.hex") _) _ _ _); ((refine call_hex (by omega) ?_); intro _ _))) | (first | with_reducible ((with_reducible show wpAny _ _ (getMethod (Value.bytes _ _) _ _) _ _ _); (first | (refine KBd.method_of _ (typeIs_bytes _ _ _) FB.slot_bytes_hex FB.type_bytes_hex KBd.noRef ?_) | (refine KBd.method_of _ (typeIs_bytes _ _ _) slot_bytes_upper type_bytes_upper KBd.noRef ?_))) | ((with_reducible show wpAny _ _ (getMethod (Value.bytes _ _) _ _) _ _ _); (first | (refine KBd.method_of _ (typeIs_bytes _ _ _) FB.slot_bytes_hex FB.type_bytes_hex KBd.noRef ?_) | (refine KBd.method_of _ (typeIs_bytes _ _ _) slot_bytes_upper type_bytes_upper KBd.noRef ?_)))) | (first | with_reducible ((with_reducible show wpAny _ _ (getMethod (Value.str _ _) (Str.ofString "encode") _) _ _ _); refine getMethod_builtin rfl PySem.F.plainAttrs_str PySem.F.slot_str_encode PySem.F.type_str_encode (fun _ e => nomatch e) ?_) | ((with_reducible show wpAny _ _ (getMethod (Value.str _ _) (Str.ofString "encode") _) _ _ _); refine getMethod_builtin rfl PySem.F.plainAttrs_str PySem.F.slot_str_encode PySem.F.type_str_encode (fun _ e => nomatch e) ?_)) | ((with_reducible show wpAny _ _ (eval (Expr.Name _ _) _) _ _ _); k_dflt refine' ld (by k_asm) (by first | exact Has.get (by with_reducible assumption) (by exact rfl) | exact rfl) ?_) | ((with_reducible refine execs_cons_gen ?_); intro _; (try dsimp only)) | ((with_reducible refine execs_nil_gen ?_); intro _; (try dsimp only)) | walk1 | (dsimp only; walk1))
 (with_reducible rename Fr _ _ _ _ => kF); (with_reducible rename News _ _ _ _ => kN)
 rw [up_all]
 exact hret _ _ _ kF kN
end
section
open PySem PySem.W PyProof.Rows PySem.Calls
variable {w : World} {mean : ExcName → Option Value} {mg mb : Str → Option Value} {dp un : Nat} {gd : Option (List Code)} {cn : Str} {cs : Scope} {a : Addr} {ccd : Value} {cl : List (Str × Addr)} {outer : List Env} {A₀ : Around} {base h₀ : Heap} {L : Addr} {m : Str → Option Value} {news : List (Addr × Obj)} {s : Shared} {Q E : Value → Shared → Prop}
theorem sixes_spec {l : Addr} {vs : List Value} {ep : Nat} {os : List Nat} (B : Below A₀ base outer h₀) (F : Fr h₀ L s.heap m) (X : (Mine.hd.heap_39 w.params).In h₀) (N : News h₀ L s.heap news) (T : Top vw loose0 mean mg mb h₀) (hk : cs.kind = .function)
  (hd : dp + 39 < recursionLimit) (hu : un + 372 < cLine) (hl : (l, listOf vs.toArray ep) ∈ news) (hv : IntsAre vs (os.map fun (c : Nat) => (c : Int))) (hos : ∀ o ∈ os, o < 256) (hol : os.length ≤ 6)
  (hret : ∀ t h' tk', Fr h₀ L h' m → News h₀ L h' news → Q (.str (mkS (sixF os)) t) { s with heap := h', toks := tk' }) :
  wpAny (model prg w) (ktrTop dp un gd cn cs L a ccd cl outer) (call (.ref 208) [.ref l]) Q E s := by
 refine wpAny_call ?_
 k_dflt (refine' code_def ?k1u1 ?k2u1 ?k3u1 ?k4u1 ?k5u1 ?kAu1 ?kFu1 ?kKu1 ?k6u1 ?k7u1 ?k8u1 ?k9u1 ?kBu1 ?_ ?c2u1 ?c3u1 ?c4u1 ?c5u1; (case kAu1 => exact rfl); (case kFu1 => exact rfl); (case kKu1 => first | assumption | exact rfl); (case k1u1 => k_asm); (case k2u1 => k_asm); (case k3u1 => k_asm); (case k4u1 => k_asm); (case k5u1 => k_asm); (case k6u1 => k_is); (case k7u1 => k_is); (case k8u1 => ktr_room); (case k9u1 => first | exact BindsTo.of_eq rfl | exact binds_K (by k_in) rfl (by k_is) rfl rfl rfl | (refine' kp_binds ?kxu1 ?keu1; (case kxu1 => k_in); (case keu1 => exact fun _ => rfl))); (case c5u1 => decide); (case kBu1 => exact locs rfl); (case c2u1 => exact rfl); (case c3u1 => exact rfl); (case c4u1 => exact rfl); k_whole; intro _ _ _ _ _ _ zzB' _ _; (try dsimp only); (try k_lift zzB'); (try k_fold))
 refine wpAny_noRaise ?_
 clear F N
 have hvl : vs.length = os.length := by have := hv.length; rw [List.length_map] at this; exact this
 repeat' first | (k_unfold; (try dsimp only)) | ((fail_if_success (with_reducible first | refine WG ?_ | refine FG ?_)); (fail_if_success first | (with_reducible show wpAny _ _ (subscriptTail _ _ (Value.str _ _) (Value.int _ _)) _ _ _) | (with_reducible show wpAny _ _ (binaryOp Operator.Mult (Value.str _ _) _) _ _ _) | (with_reducible show wpAny _ _ (binaryOp Operator.Add (Value.str _ _) (Value.str _ _)) _ _ _)); first | ((with_reducible show wpAny _ _ (call (Value.builtin "len") [Value.ref _]) _ _ _); k_dflt (refine' len_listK (by k_asm) (by k_mem) (by with_reducible assumption) (by omega) ?_)) | ((with_reducible show wpAny _ _ (eval (Expr.Name _ _) _) _ _ _); k_dflt refine' ld (by k_asm) (by first | exact Has.get (by with_reducible assumption) (by exact rfl) | exact rfl) ?_) | ((with_reducible refine execs_cons_gen ?_); intro _; (try dsimp only)) | walk1 | (dsimp only; walk1))
 (with_reducible rename Fr _ _ _ _ => kF); (with_reducible rename News _ _ _ _ => kN)
 refine For_enter ?_
 repeat' first | (k_unfold; (try dsimp only)) | ((fail_if_success (with_reducible first | refine WG ?_ | refine FG ?_)); (fail_if_success first | (with_reducible show wpAny _ _ (subscriptTail _ _ (Value.str _ _) (Value.int _ _)) _ _ _) | (with_reducible show wpAny _ _ (binaryOp Operator.Mult (Value.str _ _) _) _ _ _) | (with_reducible show wpAny _ _ (binaryOp Operator.Add (Value.str _ _) (Value.str _ _)) _ _ _)); first | ((with_reducible show wpAny _ _ (eval (Expr.Name _ _) _) _ _ _); k_dflt refine' ld (by k_asm) (by first | exact Has.get (by with_reducible assumption) (by exact rfl) | exact rfl) ?_) | walk1 | (dsimp only; walk1))
 (with_reducible rename Fr _ _ _ _ => kF); (with_reducible rename News _ _ _ _ => kN)
 refine letX3_3_5eo (fun i m₁ nw => ∃ t1 t2 t3, nw = news ∧ Has m₁ (Str.ofString "number") (.int (numF (os.take i) : Nat) t1) ∧ Has m₁ (Str.ofString "size") (.int (sizeF os.length : Nat) t2) ∧ Has m₁ (Str.ofString "signs") (.str (Str.ofString "ABCDEFGHIJKLMNOPQRSTUVWXYZabcdefghijklmnopqrstuvwxyz0123456789+/") t3) ∧ Has m₁ (Str.ofString "octets") (.ref l) : Nat → FMap → Ledger → Prop) (fun _ _ _ => .rfl) fun J hJ hJo => ?_
 refine ForAt_list (items := vs) J (by rfl) (News.isList kN hl) kF kN ?_ ?_ ?_ ?_
 ·rw [hJ]
  dsimp only
  have e : (8 * (os.length : Int) + 5).fdiv 6 = ((sizeF os.length : Nat) : Int) := by
   rw [Int.fdiv_eq_ediv_of_nonneg _ (by decide)]; unfold sizeF; omega
  rw [← e]
  exact ⟨_, _, _, rfl, ⟨rfl⟩, ⟨rfl⟩, ⟨rfl⟩, ⟨rfl⟩⟩
 ·intro i h m₁ news₁ F₁ N₁ hj
  rw [hJ] at hj
  refine oEEEA (hj) fun _ _ _ er1 _ => ?_
  try clear hj
  subst er1
  exact News.isList N₁ hl
 ·intro i v m₁ nw h₁ tk₁ I' it hv1 hj hne F₁ N₁
  dsimp only [envOf] at F₁ N₁
  refine hJo _ _ _ hj _ fun t1 t2 t3 ej1 m1 m2 m3 m4 => ?_
  clear hj
  subst ej1
  refine oEEA (hv.at i v hv1) fun p tp er2 hp => ?_
  subst er2
  rw [List.getElem?_map] at hp
  refine oEA (Option.map_eq_some_iff.mp hp) fun o hoi er3 => ?_
  subst er3
  have ho := hos o (List.mem_of_getElem? hoi)
  have hst : numF (os.take (i + 1)) = numF (os.take i) * 256 + o := by rw [List.take_add_one, hoi]; exact numF_snoc _ _
  have hnl := numF_lt _ (os.take i) rfl (fun o ho => hos o (List.mem_of_mem_take ho))
  clear kF kN
  repeat' first | (k_unfold; (try dsimp only)) | ((fail_if_success (with_reducible first | refine WG ?_ | refine FG ?_)); (fail_if_success first | (with_reducible show wpAny _ _ (subscriptTail _ _ (Value.str _ _) (Value.int _ _)) _ _ _) | (with_reducible show wpAny _ _ (binaryOp Operator.Mult (Value.str _ _) _) _ _ _) | (with_reducible show wpAny _ _ (binaryOp Operator.Add (Value.str _ _) (Value.str _ _)) _ _ _)); first | ((with_reducible show wpAny _ _ (eval (Expr.Name _ _) _) _ _ _); k_dflt refine' ld (by k_asm) (by first | exact Has.get (by with_reducible assumption) (by exact rfl) | exact rfl) ?_) | ((with_reducible refine execs_cons_gen ?_); intro _; (try dsimp only)) | ((with_reducible refine execs_nil_gen ?_); intro _; (try dsimp only)) | walk1 | (dsimp only; walk1))
  (with_reducible rename Fr _ _ _ _ => kF); (with_reducible rename News _ _ _ _ => kN)
  refine FPost.next kF kN hne ?_
  rw [hJ]
  dsimp only
  have e : ((numF (os.take (i + 1)) : Nat) : Int) = (numF (os.take i) : Nat) * 256 + o := by rw [hst]; omega
  rw [e]
  exact ⟨_, t2, t3, rfl, ⟨rfl⟩, ⟨m2.out⟩, ⟨m3.out⟩, ⟨m4.out⟩⟩
 ·intro m₁ nw h₁ tk₁ hj F₁ N₁
  dsimp only [envOf] at F₁ N₁
  refine hJo _ _ _ hj _ fun t1 t2 t3 ej2 m1 m2 m3 m4 => ?_
  clear hj
  subst ej2
  rw [hvl, List.take_length] at m1
  have hnl := numF_lt _ os rfl hos
  have hs1 : 8 * os.length ≤ 6 * sizeF os.length := by unfold sizeF; omega
  have hs2 : 6 * sizeF os.length ≤ 8 * os.length + 5 := by unfold sizeF; omega
  have hs3 : sizeF os.length ≤ 8 := by omega
  have hn2 : numF os < 281474976710656 := Nat.lt_of_lt_of_le hnl (Nat.pow_le_pow_right (by decide) hol)
  clear kF kN hnl
  dsimp only
  repeat' first | (k_unfold; (try dsimp only)) | ((fail_if_success (with_reducible first | refine WG ?_ | refine FG ?_)); (fail_if_success first | (with_reducible show wpAny _ _ (subscriptTail _ _ (Value.str _ _) (Value.int _ _)) _ _ _) | (with_reducible show wpAny _ _ (binaryOp Operator.Mult (Value.str _ _) _) _ _ _) | (with_reducible show wpAny _ _ (binaryOp Operator.Add (Value.str _ _) (Value.str _ _)) _ _ _)); first | ((with_reducible show wpAny _ _ (call (Value.builtin "len") [Value.ref _]) _ _ _); k_dflt (refine' len_listK (by k_asm) (by k_mem) (by with_reducible assumption) (by omega) ?_)) | ((with_reducible show wpAny _ _ (eval (Expr.Name _ _) _) _ _ _); k_dflt refine' ld (by k_asm) (by first | exact Has.get (by with_reducible assumption) (by exact rfl) | exact rfl) ?_) | ((with_reducible refine execs_cons_gen ?_); intro _; (try dsimp only)) | ((with_reducible refine execs_nil_gen ?_); intro _; (try dsimp only)) | walk1 | (dsimp only; walk1))
  refine For_enter ?_
  repeat' first | (k_unfold; (try dsimp only)) | ((fail_if_success (with_reducible first | refine WG ?_ | refine FG ?_)); (fail_if_success first | (with_reducible show wpAny _ _ (subscriptTail _ _ (Value.str _ _) (Value.int _ _)) _ _ _) | (with_reducible show wpAny _ _ (binaryOp Operator.Mult (Value.str _ _) _) _ _ _) | (with_reducible show wpAny _ _ (binaryOp Operator.Add (Value.str _ _) (Value.str _ _)) _ _ _)); first | ((with_reducible show wpAny _ _ (eval (Expr.Name _ _) _) _ _ _); k_dflt refine' ld (by k_asm) (by first | exact Has.get (by with_reducible assumption) (by exact rfl) | exact rfl) ?_) | walk1 | (dsimp only; walk1))
  (with_reducible rename Fr _ _ _ _ => kF); (with_reducible rename News _ _ _ _ => kN)
  (with_reducible rename IsRange _ _ _ _ _ _ _ _ => hr)
  refine ex1 ((⟨_, rfl⟩ : ∃ N0 : Nat, N0 = numF os * 2 ^ (6 * sizeF os.length - 8 * os.length))) fun N0 hN0 => ?_
  have eN : ((numF os : Nat) : Int) * 2 ^ (6 * ((sizeF os.length : Nat) : Int) - 8 * (os.length : Int)).toNat = (N0 : Nat) := by
   have e1 : (6 * ((sizeF os.length : Nat) : Int) - 8 * (os.length : Int)).toNat = 6 * sizeF os.length - 8 * os.length := by omega
   rw [e1, hN0]; simp
  refine letX3_4_5eo (fun i m₁ nw' => ∃ t1 t2 t3 t4, nw' = nw ∧ Has m₁ (Str.ofString "number") (.int ((sixI (N0, []) i).1 : Nat) t1) ∧ Has m₁ (Str.ofString "size") (.int (sizeF os.length : Nat) t2) ∧ Has m₁ (Str.ofString "signs") (.str (Str.ofString "ABCDEFGHIJKLMNOPQRSTUVWXYZabcdefghijklmnopqrstuvwxyz0123456789+/") t3) ∧ Has m₁ (Str.ofString "text") (.str (mkS (sixI (N0, []) i).2) t4) : Nat → FMap → Ledger → Prop) (fun _ _ _ => .rfl) fun J2 hJ2 hJ2o => ?_
  refine ForAt_range (n := sizeF os.length) J2 (by rfl) hr rfl (by omega) kF kN ?_ ?_ ?_
  ·rw [hJ2]
   dsimp only
   show ∃ t1 t2 t3 t4, _ ∧ Has _ (Str.ofString "number") (.int (N0 : Nat) t1) ∧ _
   rw [← eN]
   exact ⟨_, t2, t3, _, rfl, ⟨rfl⟩, ⟨m2.out⟩, ⟨m3.out⟩, ⟨rfl⟩⟩
  ·intro i t m₂ nw' h₂ tk₂ I' it hi hj hne F₂ N₂
   dsimp only [envOf] at F₂ N₂
   refine hJ2o _ _ _ hj _ fun t4 t5 t6 t7 ej3 k1 k2 k3 k4 => ?_
   clear hj
   subst ej3
   clear kF kN m1 m2 m3 m4
   have hlen := sixI_len (N0, []) i
   have hstep : sixI (N0, []) (i + 1) = ((sixI (N0, []) i).1 / 64, b64C ((sixI (N0, []) i).1 % 64) :: (sixI (N0, []) i).2) := rfl
   generalize sixI (N0, []) i = st at k1 k4 hlen hstep
   obtain ⟨nn, tx⟩ := st
   dsimp only at k1 k4 hlen hstep
   have e64 : (nn : Int).fmod 64 = ((nn % 64 : Nat) : Int) := by rw [Int.fmod_eq_emod_of_nonneg _ (by decide)]; omega
   have d64 : (nn : Int).fdiv 64 = ((nn / 64 : Nat) : Int) := by rw [Int.fdiv_eq_ediv_of_nonneg _ (by decide)]; omega
   repeat' first | (k_unfold; (try dsimp only)) | ((fail_if_success (with_reducible first | refine WG ?_ | refine FG ?_)); (fail_if_success first | (with_reducible show wpAny _ _ (subscriptTail _ _ (Value.str _ _) (Value.int _ _)) _ _ _) | (with_reducible show wpAny _ _ (binaryOp Operator.Mult (Value.str _ _) _) _ _ _) | (with_reducible show wpAny _ _ (binaryOp Operator.Add (Value.str _ _) (Value.str _ _)) _ _ _)); first | ((with_reducible show wpAny _ _ (eval (Expr.Name _ _) _) _ _ _); k_dflt refine' ld (by k_asm) (by first | exact Has.get (by with_reducible assumption) (by exact rfl) | exact rfl) ?_) | ((with_reducible refine execs_cons_gen ?_); intro _; (try dsimp only)) | walk1 | (dsimp only; walk1))
   refine str_itemK sgnS e64 (by show nn % 64 < 64; omega) (by decide) ?_
   repeat' first | (k_unfold; (try dsimp only)) | ((fail_if_success (with_reducible first | refine WG ?_ | refine FG ?_)); (fail_if_success first | (with_reducible show wpAny _ _ (subscriptTail _ _ (Value.str _ _) (Value.int _ _)) _ _ _) | (with_reducible show wpAny _ _ (binaryOp Operator.Mult (Value.str _ _) _) _ _ _) | (with_reducible show wpAny _ _ (binaryOp Operator.Add (Value.str _ _) (Value.str _ _)) _ _ _)); first | ((with_reducible show wpAny _ _ (eval (Expr.Name _ _) _) _ _ _); k_dflt refine' ld (by k_asm) (by first | exact Has.get (by with_reducible assumption) (by exact rfl) | exact rfl) ?_) | walk1 | (dsimp only; walk1))
   refine add_K (by show 1 ≤ 1000; decide) (by simp at hlen; omega) ?_
   intro t9 k9
   repeat' first | (k_unfold; (try dsimp only)) | ((fail_if_success (with_reducible first | refine WG ?_ | refine FG ?_)); (fail_if_success first | (with_reducible show wpAny _ _ (subscriptTail _ _ (Value.str _ _) (Value.int _ _)) _ _ _) | (with_reducible show wpAny _ _ (binaryOp Operator.Mult (Value.str _ _) _) _ _ _) | (with_reducible show wpAny _ _ (binaryOp Operator.Add (Value.str _ _) (Value.str _ _)) _ _ _)); first | ((with_reducible show wpAny _ _ (eval (Expr.Name _ _) _) _ _ _); k_dflt refine' ld (by k_asm) (by first | exact Has.get (by with_reducible assumption) (by exact rfl) | exact rfl) ?_) | ((with_reducible refine execs_cons_gen ?_); intro _; (try dsimp only)) | ((with_reducible refine execs_nil_gen ?_); intro _; (try dsimp only)) | walk1 | (dsimp only; walk1))
   (with_reducible rename Fr _ _ _ _ => kF); (with_reducible rename News _ _ _ _ => kN)
   refine FPost.next kF kN hne ?_
   rw [hJ2]
   dsimp only
   rw [hstep]
   dsimp only
   rw [← d64]
   exact ⟨_, t5, t6, _, rfl, ⟨rfl⟩, ⟨k2.out⟩, ⟨k3.out⟩, ⟨rfl⟩⟩
  ·intro m₂ nw' h₂ tk₂ hj F₂ N₂
   dsimp only [envOf] at F₂ N₂
   refine hJ2o _ _ _ hj _ fun t4 t5 t6 t7 ej4 k1 k2 k3 k4 => ?_
   clear hj
   subst ej4
   clear kF kN m1 m2 m3 m4
   have hlen := sixI_len (N0, []) (sizeF os.length)
   have hF : sixF os = (sixI (N0, []) (sizeF os.length)).2 ++ List.replicate ((4 - sizeF os.length % 4) % 4) 61 := by unfold sixF; rw [← hN0]
   generalize sixI (N0, []) (sizeF os.length) = st at k1 k4 hlen hF
   obtain ⟨nn, tx⟩ := st
   dsimp only at k1 k4 hlen hF
   dsimp only
   repeat' first | (k_unfold; (try dsimp only)) | ((fail_if_success (with_reducible first | refine WG ?_ | refine FG ?_)); (fail_if_success first | (with_reducible show wpAny _ _ (subscriptTail _ _ (Value.str _ _) (Value.int _ _)) _ _ _) | (with_reducible show wpAny _ _ (binaryOp Operator.Mult (Value.str _ _) _) _ _ _) | (with_reducible show wpAny _ _ (binaryOp Operator.Add (Value.str _ _) (Value.str _ _)) _ _ _)); first | ((with_reducible show wpAny _ _ (eval (Expr.Name _ _) _) _ _ _); k_dflt refine' ld (by k_asm) (by first | exact Has.get (by with_reducible assumption) (by exact rfl) | exact rfl) ?_) | ((with_reducible refine execs_cons_gen ?_); intro _; (try dsimp only)) | ((with_reducible refine execs_nil_gen ?_); intro _; (try dsimp only)) | walk1 | (dsimp only; walk1))
   have e4 : (-((sizeF os.length : Nat) : Int)).fmod 4 = (((4 - sizeF os.length % 4) % 4 : Nat) : Int) := by rw [Int.fmod_eq_emod_of_nonneg _ (by decide)]; omega
   refine eq_mulK e4 (Nat.mod_lt _ (by decide)) ?_
   intro t8 k8
   repeat' first | (k_unfold; (try dsimp only)) | ((fail_if_success (with_reducible first | refine WG ?_ | refine FG ?_)); (fail_if_success first | (with_reducible show wpAny _ _ (subscriptTail _ _ (Value.str _ _) (Value.int _ _)) _ _ _) | (with_reducible show wpAny _ _ (binaryOp Operator.Mult (Value.str _ _) _) _ _ _) | (with_reducible show wpAny _ _ (binaryOp Operator.Add (Value.str _ _) (Value.str _ _)) _ _ _)); first | walk1 | (dsimp only; walk1))
   refine add_K (by simp at hlen; omega) (by rw [List.length_replicate]; omega) ?_
   intro t9 k9
   rw [← hF]
   repeat' first | (k_unfold; (try dsimp only)) | ((fail_if_success (with_reducible first | refine WG ?_ | refine FG ?_)); (fail_if_success first | (with_reducible show wpAny _ _ (subscriptTail _ _ (Value.str _ _) (Value.int _ _)) _ _ _) | (with_reducible show wpAny _ _ (binaryOp Operator.Mult (Value.str _ _) _) _ _ _) | (with_reducible show wpAny _ _ (binaryOp Operator.Add (Value.str _ _) (Value.str _ _)) _ _ _)); first | walk1 | (dsimp only; walk1))
   (with_reducible rename Fr _ _ _ _ => kF); (with_reducible rename News _ _ _ _ => kN)
   exact hret _ _ _ kF kN
end
section
open PySem PySem.W PyProof.Rows PySem.Calls
variable {w : World} {mean : ExcName → Option Value} {mg mb : Str → Option Value} {dp un : Nat} {gd : Option (List Code)} {cn : Str} {cs : Scope} {a : Addr} {ccd : Value} {cl : List (Str × Addr)} {outer : List Env} {A₀ : Around} {base h₀ : Heap} {L : Addr} {m : Str → Option Value} {news : List (Addr × Obj)} {s : Shared} {Q E : Value → Shared → Prop}
noncomputable def signF (a b : Nat) : Int := if a = b then 0 else if a < 52 ∧ b < 52 ∧ a % 26 = b % 26 then 1 else 2
noncomputable def priceF (k a b : Nat) : Int := if k = 0 then signF (a / 4) (b / 4) + (if a % 4 ≠ b % 4 then 2 else 0) else if k = 1 then (if a / 16 ≠ b / 16 then 2 else 0) + (if a % 16 ≠ b % 16 then 2 else 0) else (if a / 64 ≠ b / 64 then 2 else 0) + signF (a % 64) (b % 64)
theorem fm_nat {n : Nat} {k : Int} (hk : 0 ≤ k) : (n : Int).fmod k = ((n % k.toNat : Nat) : Int) := by
 rw [Int.fmod_eq_emod_of_nonneg _ hk]
 have : k = (k.toNat : Int) := by omega
 rw [this]; simp
theorem fd_nat {n : Nat} {k : Int} (hk : 0 ≤ k) : (n : Int).fdiv k = ((n / k.toNat : Nat) : Int) := by
 rw [Int.fdiv_eq_ediv_of_nonneg _ hk]
 have : k = (k.toNat : Int) := by omega
 rw [this]; simp
theorem sign_spec {x y : Nat} {i j : Int} {tx ty : Tok} (B : Below A₀ base outer h₀) (F : Fr h₀ L s.heap m) (X : (Mine.hd.heap_39 w.params).In h₀) (N : News h₀ L s.heap news) (T : Top vw loose0 mean mg mb h₀) (hk : cs.kind = .function)
  (hd : dp + 9 < recursionLimit) (hu : un + 72 < cLine) (hi : i = (x : Int)) (hj : j = (y : Int))
  (hret : ∀ t h' tk', Fr h₀ L h' m → News h₀ L h' news → Q (.int (signF x y) t) { s with heap := h', toks := tk' }) :
  wpAny (model prg w) (ktrTop dp un gd cn cs L a ccd cl outer) (call (.ref 225) [.int i tx, .int j ty]) Q E s := by
 subst hi hj
 refine wpAny_call ?_
 k_dflt (refine' code_def ?k1u1 ?k2u1 ?k3u1 ?k4u1 ?k5u1 ?kAu1 ?kFu1 ?kKu1 ?k6u1 ?k7u1 ?k8u1 ?k9u1 ?kBu1 ?_ ?c2u1 ?c3u1 ?c4u1 ?c5u1; (case kAu1 => exact rfl); (case kFu1 => exact rfl); (case kKu1 => first | assumption | exact rfl); (case k1u1 => k_asm); (case k2u1 => k_asm); (case k3u1 => k_asm); (case k4u1 => k_asm); (case k5u1 => k_asm); (case k6u1 => k_is); (case k7u1 => k_is); (case k8u1 => ktr_room); (case k9u1 => first | exact BindsTo.of_eq rfl | exact binds_K (by k_in) rfl (by k_is) rfl rfl rfl | (refine' kp_binds ?kxu1 ?keu1; (case kxu1 => k_in); (case keu1 => exact fun _ => rfl))); (case c5u1 => decide); (case kBu1 => exact locs rfl); (case c2u1 => exact rfl); (case c3u1 => exact rfl); (case c4u1 => exact rfl); k_whole; intro _ _ _ _ _ _ zzB' _ _; (try dsimp only); (try k_lift zzB'); (try k_fold))
 refine wpAny_noRaise ?_
 clear F N
 repeat' first | (k_unfold; (try dsimp only)) | ((fail_if_success (with_reducible first | refine WG ?_ | refine FG ?_)); first | ((with_reducible show wpAny _ _ (eval (Expr.Name _ _) _) _ _ _); k_dflt refine' ld (by k_asm) (by first | exact Has.get (by with_reducible assumption) (by exact rfl) | exact rfl) ?_) | ((with_reducible refine execs_cons_gen ?_); intro _; (try dsimp only)) | ((with_reducible refine execs_nil_gen ?_); intro _; (try dsimp only)) | walk1 | (dsimp only; walk1))
 all_goals (with_reducible rename Fr _ _ _ _ => kF)
 all_goals (with_reducible rename News _ _ _ _ => kN)
 all_goals (try simp only [Int.fmod_eq_emod_of_nonneg _ (show (0 : Int) ≤ 26 by decide)] at *)
 ·have hv : signF x y = 0 := by unfold signF; rw [if_pos (by omega)]
  rw [hv] at hret
  exact hret _ _ _ kF kN
 ·have hv : signF x y = 1 := by unfold signF; rw [if_neg (by omega), if_pos (by omega)]
  rw [hv] at hret
  exact hret _ _ _ kF kN
 all_goals (have hv : signF x y = 2 := by unfold signF; rw [if_neg (by omega), if_neg (by omega)])
 all_goals (rw [hv] at hret)
 all_goals exact hret _ _ _ kF kN
theorem price_spec {k x y : Nat} {i : Int} {ti tx ty : Tok} (B : Below A₀ base outer h₀) (F : Fr h₀ L s.heap m) (X : (Mine.hd.heap_39 w.params).In h₀) (N : News h₀ L s.heap news) (T : Top vw loose0 mean mg mb h₀) (hk : cs.kind = .function)
  (hd : dp + 29 < recursionLimit) (hu : un + 172 < cLine) (hi : i = (k : Int))
  (hret : ∀ t h' tk', Fr h₀ L h' m → News h₀ L h' news → Q (.int (priceF k x y) t) { s with heap := h', toks := tk' }) :
  wpAny (model prg w) (ktrTop dp un gd cn cs L a ccd cl outer) (call (.ref 232) [.int i ti, .int (x : Nat) tx, .int (y : Nat) ty]) Q E s := by
 subst hi
 refine wpAny_call ?_
 k_dflt (refine' code_def ?k1u2 ?k2u2 ?k3u2 ?k4u2 ?k5u2 ?kAu2 ?kFu2 ?kKu2 ?k6u2 ?k7u2 ?k8u2 ?k9u2 ?kBu2 ?_ ?c2u2 ?c3u2 ?c4u2 ?c5u2; (case kAu2 => exact rfl); (case kFu2 => exact rfl); (case kKu2 => first | assumption | exact rfl); (case k1u2 => k_asm); (case k2u2 => k_asm); (case k3u2 => k_asm); (case k4u2 => k_asm); (case k5u2 => k_asm); (case k6u2 => k_is); (case k7u2 => k_is); (case k8u2 => ktr_room); (case k9u2 => first | exact BindsTo.of_eq rfl | exact binds_K (by k_in) rfl (by k_is) rfl rfl rfl | (refine' kp_binds ?kxu2 ?keu2; (case kxu2 => k_in); (case keu2 => exact fun _ => rfl))); (case c5u2 => decide); (case kBu2 => exact locs rfl); (case c2u2 => exact rfl); (case c3u2 => exact rfl); (case c4u2 => exact rfl); k_whole; intro _ _ _ _ _ _ zzB' _ _; (try dsimp only); (try k_lift zzB'); (try k_fold))
 refine wpAny_noRaise ?_
 clear F N
 repeat' first | (k_unfold; (try dsimp only)) | ((fail_if_success (with_reducible first | refine WG ?_ | refine FG ?_)); first | ((with_reducible show wpAny _ _ (call (Value.ref 225) _ _) _ _ _); k_dflt (refine' sign_spec (by k_asm) (by k_asm) (by k_asm) (by k_asm) (by k_asm) (by first | exact rfl | assumption) (by ktr_room) (by ktr_units) (by first | exact fd_nat (by decide) | exact fm_nat (by decide)) (by first | exact fd_nat (by decide) | exact fm_nat (by decide)) ?_; intro _ _ _ _ _; (try dsimp only))) | ((with_reducible show wpAny _ _ (eval (Expr.Name _ _) _) _ _ _); k_dflt refine' ld (by k_asm) (by first | exact Has.get (by with_reducible assumption) (by exact rfl) | exact rfl) ?_) | ((with_reducible refine execs_cons_gen ?_); intro _; (try dsimp only)) | ((with_reducible refine execs_nil_gen ?_); intro _; (try dsimp only)) | walk1 | (dsimp only; walk1))
 all_goals (with_reducible rename Fr _ _ _ _ => kF)
 all_goals (with_reducible rename News _ _ _ _ => kN)
 all_goals (try simp only [Int.fmod_eq_emod_of_nonneg _ (show (0 : Int) ≤ 4 by decide), Int.fmod_eq_emod_of_nonneg _ (show (0 : Int) ≤ 16 by decide), Int.fdiv_eq_ediv_of_nonneg _ (show (0 : Int) ≤ 16 by decide), Int.fdiv_eq_ediv_of_nonneg _ (show (0 : Int) ≤ 64 by decide)] at *)
 ·have hv : priceF k x y = signF (x / 4) (y / 4) + 2 := by unfold priceF; rw [if_pos (by omega), if_pos (by omega)]
  rw [hv] at hret
  exact hret _ _ _ kF kN
 ·have hv : priceF k x y = signF (x / 4) (y / 4) + 0 := by unfold priceF; rw [if_pos (by omega), if_neg (by omega)]
  rw [hv] at hret
  exact hret _ _ _ kF kN
 ·have hv : priceF k x y = 2 + 2 := by unfold priceF; rw [if_neg (by omega), if_pos (by omega), if_pos (by omega), if_pos (by omega)]
  rw [hv] at hret
  exact hret _ _ _ kF kN
 ·have hv : priceF k x y = 2 + 0 := by unfold priceF; rw [if_neg (by omega), if_pos (by omega), if_pos (by omega), if_neg (by omega)]
  rw [hv] at hret
  exact hret _ _ _ kF kN
 ·have hv : priceF k x y = 0 + 2 := by unfold priceF; rw [if_neg (by omega), if_pos (by omega), if_neg (by omega), if_pos (by omega)]
  rw [hv] at hret
  exact hret _ _ _ kF kN
 ·have hv : priceF k x y = 0 + 0 := by unfold priceF; rw [if_neg (by omega), if_pos (by omega), if_neg (by omega), if_neg (by omega)]
  rw [hv] at hret
  exact hret _ _ _ kF kN
 ·have hv : priceF k x y = 2 + signF (x % 64) (y % 64) := by unfold priceF; rw [if_neg (by omega), if_neg (by omega), if_pos (by omega)]
  rw [hv] at hret
  exact hret _ _ _ kF kN
 ·have hv : priceF k x y = 0 + signF (x % 64) (y % 64) := by unfold priceF; rw [if_neg (by omega), if_neg (by omega), if_neg (by omega)]
  rw [hv] at hret
  exact hret _ _ _ kF kN
end
section
open PySem
theorem lower64 : ∀ i, i < 64 → Txt.lower (mkS [b64C i]) = mkS [if i < 26 then b64C (i + 26) else b64C i] := by decide +kernel
theorem sign64 : ∀ i, i < 64 → ∀ j, j < 64 → (if [b64C i] = [b64C j] then (0 : Int) else if [if i < 26 then b64C (i + 26) else b64C i] = [if j < 26 then b64C (j + 26) else b64C j] then 1 else 2) = signF i j := by decide +kernel
theorem subN64 {i j : Nat} (hi : i < 64) (hj : j < 64) : subN (b64C i) (b64C j) = signF i j := by
 unfold subN subF
 rw [lower64 i hi, lower64 j hj, mkS_beq, mkS_beq, ← sign64 i hi j hj]
 simp only [decide_eq_true_eq]
theorem lower16 : ∀ i, i < 16 → ∀ j, j < 16 → subN (hexUp i) (hexUp j) = if i = j then 0 else 2 := by decide +kernel
theorem subN_le (x y : Nat) : 0 ≤ subN x y ∧ subN x y ≤ 2 := by
 unfold subN subF
 split
 ·omega
 ·split <;> omega
theorem subN_pos {x y : Nat} (h : x ≠ y) : 1 ≤ subN x y := by
 unfold subN subF
 rw [mkS_beq, if_neg (by simpa using h)]
 split <;> omega
theorem mE {s : Int} (h : s ≤ 2) : min (min (2 * ((0 : Nat) : Int)) (2 * ((0 : Int) + 1)) + 2) (2 * ((0 : Nat) : Int) + s) = s := by
 rw [show min (2 * ((0 : Nat) : Int)) (2 * ((0 : Int) + 1)) + 2 = 2 by decide, show 2 * ((0 : Nat) : Int) = 0 from rfl, Int.zero_add]
 exact Int.min_eq_right h
theorem ltB {s : Int} (h : s ≤ 4) : s < big := Int.lt_of_le_of_lt h (by decide)
theorem le24 {s : Int} (h : s ≤ 2) : s ≤ 4 := Int.le_trans h (by decide)
theorem ne04 {b : Int} (h : 4 ≤ b) : ¬ b = 0 := fun e => absurd (e ▸ h) (by decide)
theorem cpl_app : ∀ (P X Y : List Nat), cpl (P ++ X) (P ++ Y) = P.length + cpl X Y
 | [], X, Y => by simp
 | p :: P, X, Y => by
  show (if p = p then cpl (P ++ X) (P ++ Y) + 1 else 0) = _
  rw [if_pos rfl, cpl_app P X Y, List.length_cons]; omega
theorem drop_app (P X : List Nat) (k : Nat) : (P ++ X).drop (P.length + k) = X.drop k := by
 rw [List.drop_append, List.drop_of_length_le (by omega), List.nil_append]
 congr 1; omega
theorem levF_pre (P X Y : List Nat) (b : Int) : levF (P ++ X) (P ++ Y) b = levF X Y b := by
 unfold levF
 rw [cpl_app, drop_app, drop_app]
 simp only [List.append_cancel_left_eq]
theorem cpl_ne {x y : Nat} (h : x ≠ y) (X Y : List Nat) : cpl (x :: X) (y :: Y) = 0 := by
 show (if x = y then _ else 0) = 0
 rw [if_neg h]
theorem trim_app (X Y S : List Nat) : trimR (X ++ S) (Y ++ S) = trimR X Y := by
 unfold trimR
 rw [List.reverse_append, List.reverse_append, cpl_app, List.length_reverse, List.length_append]
 have h := cpl_le_left X.reverse Y.reverse
 rw [List.length_reverse] at h
 rw [List.take_append_of_le_length (by omega)]
 congr 1; omega
theorem levF_suf {x y : Nat} (h : x ≠ y) (X Y S : List Nat) (b : Int) : levF (x :: X ++ S) (y :: Y ++ S) b = levF (x :: X) (y :: Y) b := by
 unfold levF
 rw [if_neg (by simp [h]), if_neg (by simp [h])]
 rw [show x :: X ++ S = x :: (X ++ S) from rfl, show y :: Y ++ S = y :: (Y ++ S) from rfl, cpl_ne h, cpl_ne h, List.drop_zero, List.drop_zero, List.drop_zero, List.drop_zero]
 rw [show x :: (X ++ S) = (x :: X) ++ S from rfl, show y :: (Y ++ S) = (y :: Y) ++ S from rfl, trim_app, trim_app]
theorem lev_one {x y : Nat} (h : x ≠ y) {b : Int} (hb : 0 ≤ b) : levF [x] [y] b = if subN y x > b then b + 1 else subN y x := by
 unfold levF
 rw [if_neg (by simp [h]), cpl_ne h]
 have e1 : trimR [x] [y] = [x] := by
  unfold trimR
  rw [show [x].reverse = [x] from rfl, show [y].reverse = [y] from rfl, cpl_ne h]; rfl
 have e2 : trimR [y] [x] = [y] := by
  unfold trimR
  rw [show [x].reverse = [x] from rfl, show [y].reverse = [y] from rfl, cpl_ne (Ne.symm h)]; rfl
 rw [List.drop_zero, List.drop_zero, e1, e2]
 have hs := subN_le y x
 show (if [x] = [] ∨ [y] = [] then _ else if 1 < 1 then _ else (if ((1 : Int) - 1) * 2 > b then b + 1 else rowsF [x] [y] b)) = _
 rw [if_neg (by simp), if_neg (by decide), if_neg (show ¬ (((1 : Int) - 1) * 2 > b) from Int.not_lt.mpr hb)]
 show (let t := innerR y [x] [2 * ((0 : Int) + 1)] (2 * (0 : Nat)) (2 * (0 : Nat)) big; if t.2.2.2 > b then b + 1 else outerR [x] b [] 1 t.1 t.2.2.1) = _
 rw [innerR_cons, innerR_nil]
 rw [mE hs.2]
 have e4 : (if subN y x < big then subN y x else big) = subN y x := if_pos (ltB (le24 hs.2))
 dsimp only
 rw [e4]
 rfl
theorem lev_two {x1 x2 y1 y2 : Nat} (h1 : x1 ≠ y1) (h2 : x2 ≠ y2) {b : Int} (hb : b = 0 ∨ 4 ≤ b) : levF [x1, x2] [y1, y2] b = if b = 0 then 1 else subN y1 x1 + subN y2 x2 := by
 unfold levF
 rw [if_neg (by simp [h1]), cpl_ne h1]
 have e1 : trimR [x1, x2] [y1, y2] = [x1, x2] := by
  unfold trimR
  rw [show [x1, x2].reverse = [x2, x1] from rfl, show [y1, y2].reverse = [y2, y1] from rfl, cpl_ne h2]; rfl
 have e2 : trimR [y1, y2] [x1, x2] = [y1, y2] := by
  unfold trimR
  rw [show [x1, x2].reverse = [x2, x1] from rfl, show [y1, y2].reverse = [y2, y1] from rfl, cpl_ne (Ne.symm h2)]; rfl
 rw [List.drop_zero, List.drop_zero, e1, e2]
 have s11 := subN_le y1 x1
 have s12 := subN_le y1 x2
 have s21 := subN_le y2 x1
 have s22 := subN_le y2 x2
 have p11 := subN_pos (Ne.symm h1)
 show (if [x1, x2] = [] ∨ [y1, y2] = [] then _ else if 2 < 2 then _ else (if ((2 : Int) - 2) * 2 > b then b + 1 else rowsF [x1, x2] [y1, y2] b)) = _
 have hb0 : 0 ≤ b := hb.elim (fun e => Int.le_of_eq e.symm) fun h => Int.le_trans (by decide) h
 rw [if_neg (by simp), if_neg (by decide), if_neg (show ¬ (((2 : Int) - 2) * 2 > b) from Int.not_lt.mpr hb0)]
 show (let t := innerR y1 [x1, x2] [2 * ((0 : Int) + 1), 2 * ((1 : Int) + 1)] (2 * (0 : Nat)) (2 * (0 : Nat)) big; if t.2.2.2 > b then b + 1 else outerR [x1, x2] b [y2] 1 t.1 t.2.2.1) = _
 rw [innerR_cons, innerR_cons, innerR_nil]
 rw [mE s11.2]
 have e4 : (if subN y1 x1 < big then subN y1 x1 else big) = subN y1 x1 := if_pos (ltB (le24 s11.2))
 dsimp only
 rw [e4]
 refine ex1 ((⟨_, rfl⟩ : ∃ r2 : Int, r2 = min (min (subN y1 x1) (2 * (1 + 1)) + 2) (2 * (0 + 1) + subN y1 x2))) fun r2 hr2 => ?_
 have hr : 2 ≤ r2 := hr2 ▸ Int.le_min.mpr ⟨Int.le_add_of_nonneg_left (Int.le_min.mpr ⟨s11.1, by decide⟩), Int.le_add_of_nonneg_right s12.1⟩
 rw [← hr2, if_neg (Int.not_lt.mpr (Int.le_trans s11.2 hr))]
 rcases hb with rfl | hb
 ·rw [if_pos (Int.lt_of_lt_of_le (by decide) p11), if_pos rfl]; rfl
 ·rw [if_neg (Int.not_lt.mpr (Int.le_trans (le24 s11.2) hb)), if_neg (ne04 hb)]
  show (let t := innerR y2 [x1, x2] [subN y1 x1, r2] (2 * (1 : Nat)) (2 * (1 : Nat)) big; if t.2.2.2 > b then b + 1 else outerR [x1, x2] b [] 2 t.1 t.2.2.1) = _
  rw [innerR_cons, innerR_cons, innerR_nil]
  dsimp only
  refine ex1 ((⟨_, rfl⟩ : ∃ q1 : Int, q1 = min (min (2 * ((1 : Nat) : Int)) (subN y1 x1) + 2) (2 * ((1 : Nat) : Int) + subN y2 x1))) fun q1 hq1 => ?_
  rw [← hq1]
  have hq : 2 ≤ q1 := hq1 ▸ Int.le_min.mpr ⟨Int.le_add_of_nonneg_left (Int.le_min.mpr ⟨by decide, s11.1⟩), Int.le_add_of_nonneg_right s21.1⟩
  have hq4 : q1 ≤ 4 := Int.le_trans (hq1 ▸ Int.min_le_right _ _) (Int.add_le_add_left s21.2 2)
  have hs4 : subN y1 x1 + subN y2 x2 ≤ 4 := Int.add_le_add s11.2 s22.2
  have e5 : min (min q1 r2 + 2) (subN y1 x1 + subN y2 x2) = subN y1 x1 + subN y2 x2 := Int.min_eq_right (Int.le_trans hs4 (Int.add_le_add_right (Int.le_min.mpr ⟨hq, hr⟩) 2))
  rw [e5]
  have e6 : (if q1 < big then q1 else big) = q1 := if_pos (ltB hq4)
  rw [e6]
  have e7 : ¬ ((if subN y1 x1 + subN y2 x2 < q1 then subN y1 x1 + subN y2 x2 else q1) > b) := by
   split
   ·exact Int.not_lt.mpr (Int.le_trans hs4 hb)
   ·exact Int.not_lt.mpr (Int.le_trans hq4 hb)
  rw [if_neg e7]
  rfl
theorem cpl_self_app : ∀ (S T : List Nat), cpl S (S ++ T) = S.length
 | [], T => by cases T <;> rfl
 | s :: S, T => by
  show (if s = s then cpl S (S ++ T) + 1 else 0) = _
  rw [if_pos rfl, cpl_self_app S T, List.length_cons]
theorem cpl_app_self (S T : List Nat) : cpl (S ++ T) S = S.length := by rw [cpl_comm, cpl_self_app]
theorem drop_shift : ∀ (S : List Nat) (y : Nat), (y :: S).drop (cpl (y :: S) S) = y :: S.drop (cpl (y :: S) S)
 | [], y => rfl
 | s :: S, y => by
  by_cases h : y = s
  ·subst h
   have e : cpl (y :: y :: S) (y :: S) = cpl (y :: S) S + 1 := by
    show (if y = y then _ + 1 else 0) = _
    rw [if_pos rfl]
   rw [e, List.drop_succ_cons, drop_shift S y, List.drop_succ_cons]
  ·rw [cpl_ne h]; rfl
theorem lev_drop (S : List Nat) (y : Nat) (b : Int) : levF (y :: S) S b = 2 := by
 unfold levF
 rw [if_neg (fun e => by have := congrArg List.length e; simp at this), drop_shift]
 refine ex1 ((⟨_, rfl⟩ : ∃ D, D = S.drop (cpl (y :: S) S))) fun D hD => ?_
 rw [← hD]
 have e1 : trimR (y :: D) D = [y] := by
  unfold trimR
  rw [List.reverse_cons, cpl_app_self, List.length_reverse, List.length_cons, show D.length + 1 - D.length = 1 by omega]
  rfl
 have e2 : trimR D (y :: D) = [] := by
  unfold trimR
  rw [List.reverse_cons, cpl_self_app, List.length_reverse, Nat.sub_self]
  rfl
 rw [e1, e2]
 rfl
theorem lev_short {x y u : Nat} (h1 : x ≠ u) (h2 : y ≠ u) (S : List Nat) {b : Int} (hb : 4 ≤ b) (s1 : subN x u = 2) (s2 : subN y u = 2) : levF (x :: y :: S) (u :: S) b = 4 := by
 unfold levF
 rw [if_neg (by simp [h1]), cpl_ne h1, List.drop_zero, List.drop_zero]
 rw [show x :: y :: S = [x, y] ++ S from rfl, show u :: S = [u] ++ S from rfl, trim_app, trim_app]
 have e1 : trimR [x, y] [u] = [x, y] := by
  unfold trimR
  rw [show [x, y].reverse = [y, x] from rfl, show [u].reverse = [u] from rfl, cpl_ne h2]; rfl
 have e2 : trimR [u] [x, y] = [u] := by
  unfold trimR
  rw [show [x, y].reverse = [y, x] from rfl, show [u].reverse = [u] from rfl, cpl_ne (Ne.symm h2)]; rfl
 rw [e1, e2]
 show (if [x, y] = [] ∨ [u] = [] then _ else if 1 < 2 then (if ((2 : Int) - 1) * 2 > b then b + 1 else rowsF [u] [x, y] b) else _) = _
 rw [if_neg (by simp), if_pos (by decide), if_neg (show ¬ (((2 : Int) - 1) * 2 > b) from Int.not_lt.mpr (Int.le_trans (by decide) hb))]
 show (let t := innerR x [u] [2 * ((0 : Int) + 1)] (2 * (0 : Nat)) (2 * (0 : Nat)) big; if t.2.2.2 > b then b + 1 else outerR [u] b [y] 1 t.1 t.2.2.1) = _
 rw [innerR_cons, innerR_nil, s1]
 have e3 : min (min (2 * ((0 : Nat) : Int)) (2 * ((0 : Int) + 1)) + 2) (2 * ((0 : Nat) : Int) + 2) = 2 := by decide
 rw [e3]
 have e4 : (if (2 : Int) < big then 2 else big) = 2 := if_pos (by decide)
 dsimp only
 rw [e4, if_neg (Int.not_lt.mpr (Int.le_trans (by decide) hb))]
 show (let t := innerR y [u] [2] (2 * (1 : Nat)) (2 * (1 : Nat)) big; if t.2.2.2 > b then b + 1 else outerR [u] b [] 2 t.1 t.2.2.1) = _
 rw [innerR_cons, innerR_nil, s2]
 have e5 : min (min (2 * ((1 : Nat) : Int)) 2 + 2) (2 * ((1 : Nat) : Int) + 2) = 4 := by decide
 rw [e5]
 have e6 : (if (4 : Int) < big then 4 else big) = 4 := if_pos (by decide)
 dsimp only
 rw [e6, if_neg (Int.not_lt.mpr hb)]
 rfl
theorem lev_group (P S : List Nat) (x1 x2 y1 y2 : Nat) {b : Int} (hb : b = 0 ∨ 4 ≤ b) :
  levF (P ++ (x1 :: x2 :: S)) (P ++ (y1 :: y2 :: S)) b = if b = 0 then (if x1 = y1 ∧ x2 = y2 then 0 else 1) else subN y1 x1 + subN y2 x2 := by
 have z : ∀ x, subN x x = 0 := fun x => by unfold subN subF; rw [mkS_beq, if_pos (by simp)]
 have hb0 : 0 ≤ b := hb.elim (fun e => Int.le_of_eq e.symm) fun h => Int.le_trans (by decide) h
 rw [levF_pre]
 by_cases h1 : x1 = y1
 ·subst h1
  rw [show x1 :: x2 :: S = [x1] ++ (x2 :: S) from rfl, show x1 :: y2 :: S = [x1] ++ (y2 :: S) from rfl, levF_pre]
  by_cases h2 : x2 = y2
  ·subst h2
   unfold levF
   rw [if_pos rfl]
   rcases hb with rfl | hb
   ·simp
   ·rw [if_neg (ne04 hb), z, z]; rfl
  ·have := levF_suf h2 [] [] S b
   rw [show [x2] ++ S = x2 :: S from rfl, show [y2] ++ S = y2 :: S from rfl] at this
   rw [this, lev_one h2 hb0, z]
   have p := subN_pos (Ne.symm h2)
   have q := subN_le y2 x2
   rcases hb with rfl | hb
   ·rw [if_pos (Int.lt_of_lt_of_le (by decide) p), if_pos rfl, if_neg (by simp [h2])]; rfl
   ·rw [if_neg (Int.not_lt.mpr (Int.le_trans (le24 q.2) hb)), if_neg (ne04 hb)]; simp only [Int.zero_add, Int.add_zero]
 ·by_cases h2 : x2 = y2
  ·subst h2
   have := levF_suf h1 [] [] (x2 :: S) b
   rw [show [x1] ++ (x2 :: S) = x1 :: x2 :: S from rfl, show [y1] ++ (x2 :: S) = y1 :: x2 :: S from rfl] at this
   rw [this, lev_one h1 hb0, z]
   have p := subN_pos (Ne.symm h1)
   have q := subN_le y1 x1
   rcases hb with rfl | hb
   ·rw [if_pos (Int.lt_of_lt_of_le (by decide) p), if_pos rfl, if_neg (by simp [h1])]; rfl
   ·rw [if_neg (Int.not_lt.mpr (Int.le_trans (le24 q.2) hb)), if_neg (ne04 hb)]; simp only [Int.zero_add, Int.add_zero]
  ·have := levF_suf h1 [x2] [y2] S b
   rw [show x1 :: [x2] ++ S = x1 :: x2 :: S from rfl, show y1 :: [y2] ++ S = y1 :: y2 :: S from rfl] at this
   rw [this, lev_two h1 h2 hb]
   rcases hb with rfl | hb
   ·rw [if_pos rfl, if_pos rfl, if_neg (by simp [h1])]
   ·rw [if_neg (ne04 hb), if_neg (ne04 hb)]
end
section
open PySem
theorem hexE_at (A B : List Nat) (o : Nat) : hexE (A ++ o :: B) = hexE A ++ (hexUp (o / 16) :: hexUp (o % 16) :: hexE B) := by
 unfold hexE; rw [List.flatMap_append, List.flatMap_cons]; rfl
theorem price16 (A B : List Nat) {o n : Nat} (ho : o < 256) (hn : n < 256) {b : Int} (hb : 4 ≤ b) : levF (hexE (A ++ o :: B)) (hexE (A ++ n :: B)) b = priceF 1 o n := by
 rw [hexE_at, hexE_at, lev_group _ _ _ _ _ _ (.inr hb), if_neg (by omega), lower16 _ (by omega) _ (by omega), lower16 _ (by omega) _ (by omega)]
 have e : priceF 1 o n = (if o / 16 ≠ n / 16 then 2 else 0) + (if o % 16 ≠ n % 16 then 2 else 0) := rfl
 rw [e]
 congr 1
 ·by_cases h : o / 16 = n / 16
  ·rw [if_pos h.symm, if_neg (by simp [h])]
  ·rw [if_neg (Ne.symm h), if_pos h]
 ·by_cases h : o % 16 = n % 16
  ·rw [if_pos h.symm, if_neg (by simp [h])]
  ·rw [if_neg (Ne.symm h), if_pos h]
theorem hexUp_inj : ∀ i, i < 16 → ∀ j, j < 16 → hexUp i = hexUp j → i = j := by decide
theorem short16 (A B : List Nat) {o n : Nat} (ho : o < 256) (hn : n < 256) {b : Int} (hb : 4 ≤ b) : levF (hexE (A ++ o :: B)) (hexE A ++ (hexUp (n / 16) :: hexE B)) b = if n / 16 = o / 16 ∨ n / 16 = o % 16 then 2 else 4 := by
 rw [hexE_at, levF_pre]
 by_cases h1 : n / 16 = o / 16
 ·rw [if_pos (.inl h1), h1, show hexUp (o / 16) :: hexUp (o % 16) :: hexE B = [hexUp (o / 16)] ++ (hexUp (o % 16) :: hexE B) from rfl, show hexUp (o / 16) :: hexE B = [hexUp (o / 16)] ++ hexE B from rfl, levF_pre, lev_drop]
 ·by_cases h2 : n / 16 = o % 16
  ·rw [if_pos (.inr h2), h2, lev_drop]
  ·rw [if_neg (by simp [h1, h2])]
   refine lev_short (fun e => h1 (hexUp_inj _ (by omega) _ (by omega) e).symm) (fun e => h2 (hexUp_inj _ (by omega) _ (by omega) e).symm) _ hb ?_ ?_
   ·rw [lower16 _ (by omega) _ (by omega), if_neg (Ne.symm h1)]
   ·rw [lower16 _ (by omega) _ (by omega), if_neg (Ne.symm h2)]
noncomputable def eG : List Nat → List Nat
 | a :: b :: c :: r => g3 a b c ++ eG r
 | [a, b] => r2 a b
 | [a] => r1 a
 | [] => []
theorem encF_eG : ∀ (os : List Nat), 3 ≤ os.length → os.length ≤ 6 → (∀ o ∈ os, o < 256) → encF os = eG os
 | [a, b, c], _, _, h => by rw [enc3 (h a (by simp)) (h b (by simp)) (h c (by simp))]; rfl
 | [a, b, c, d], _, _, h => by rw [enc4 (h a (by simp)) (h b (by simp)) (h c (by simp)) (h d (by simp))]; rfl
 | [a, b, c, d, e], _, _, h => by rw [enc5 (h a (by simp)) (h b (by simp)) (h c (by simp)) (h d (by simp)) (h e (by simp))]; rfl
 | [a, b, c, d, e, f], _, _, h => by rw [enc6 (h a (by simp)) (h b (by simp)) (h c (by simp)) (h d (by simp)) (h e (by simp)) (h f (by simp))]; rfl
 | [], h, _, _ => by simp at h
 | [_], h, _, _ => by simp at h
 | [_, _], h, _, _ => by simp at h
 | _ :: _ :: _ :: _ :: _ :: _ :: _ :: _, _, h, _ => by simp at h
noncomputable def sgA (k s t o : Nat) : Nat := if k = 0 then o / 4 else if k = 1 then s * 16 + o / 16 else s * 4 + o / 64
noncomputable def sgB (k s t o : Nat) : Nat := if k = 0 then o % 4 * 16 + t else if k = 1 then o % 16 * 4 + t else o % 64
theorem eG_at : ∀ (A : List Nat) (B : List Nat), (∀ o ∈ A, o < 256) → (∀ o ∈ B, o < 256) → ∃ P S s t, (s < 16 ∧ t < 16 ∧ (A.length % 3 = 1 → s < 4 ∧ t < 4)) ∧ ∀ o, eG (A ++ o :: B) = P ++ (b64C (sgA (A.length % 3) s t o) :: b64C (sgB (A.length % 3) s t o) :: S)
 | [], [], _, _ => ⟨[], [61, 61], 0, 0, by decide, fun o => rfl⟩
 | [], [b], _, h => ⟨[], [b64C (b % 16 * 4), 61], 0, b / 16, ⟨by decide, by have := h b (.head _); omega, fun e => absurd e (by decide)⟩, fun o => rfl⟩
 | [], b :: c :: r, _, h => ⟨[], b64C (b % 16 * 4 + c / 64) :: b64C (c % 64) :: eG r, 0, b / 16, ⟨by decide, by have := h b (.head _); omega, fun e => absurd e (by decide)⟩, fun o => rfl⟩
 | [a], [], h, _ => ⟨[b64C (a / 4)], [61], a % 4, 0, ⟨by omega, by decide, fun _ => ⟨by omega, by decide⟩⟩, fun o => rfl⟩
 | [a], c :: r, h, hB => ⟨[b64C (a / 4)], b64C (c % 64) :: eG r, a % 4, c / 64, ⟨by omega, by have := hB c (.head _); omega, fun _ => ⟨by omega, by have := hB c (.head _); omega⟩⟩, fun o => rfl⟩
 | [a, b], B, h, _ => ⟨[b64C (a / 4), b64C (a % 4 * 16 + b / 16)], eG B, b % 16, 0, ⟨by omega, by decide, fun e => absurd (show 2 % 3 = 1 from e) (by decide)⟩, fun o => rfl⟩
 | a :: b :: c :: A, B, h, hB => by
  refine oEEEEA (eG_at A B (fun o ho => h o (.tail _ (.tail _ (.tail _ ho)))) hB) fun P S s t hst hE => ?_
  have hl : (a :: b :: c :: A).length % 3 = A.length % 3 := by simp only [List.length_cons]; omega
  refine ⟨g3 a b c ++ P, S, s, t, by rw [hl]; exact hst, fun o => ?_⟩
  rw [hl]
  show g3 a b c ++ eG (A ++ o :: B) = _
  rw [hE o, List.append_assoc]
theorem sgn_sym (a b : Nat) : signF a b = signF b a := by
 unfold signF
 by_cases h : a = b
 ·rw [if_pos h, if_pos h.symm]
 ·rw [if_neg h, if_neg (Ne.symm h)]
  by_cases q : a < 52 ∧ b < 52 ∧ a % 26 = b % 26
  ·rw [if_pos q, if_pos ⟨q.2.1, q.1, q.2.2.symm⟩]
  ·rw [if_neg q, if_neg (fun z => q ⟨z.2.1, z.1, z.2.2.symm⟩)]
theorem sg0 : ∀ p, p < 4 → ∀ q, q < 4 → ∀ t, t < 16 → signF (p * 16 + t) (q * 16 + t) = if q ≠ p then 2 else 0 := by decide +kernel
theorem sg1 : ∀ p, p < 16 → ∀ q, q < 16 → ∀ s, s < 4 → signF (s * 16 + p) (s * 16 + q) = if q ≠ p then 2 else 0 := by decide +kernel
theorem sg2 : ∀ p, p < 16 → ∀ q, q < 16 → ∀ t, t < 4 → signF (p * 4 + t) (q * 4 + t) = if q ≠ p then 2 else 0 := by decide +kernel
theorem sg3 : ∀ p, p < 4 → ∀ q, q < 4 → ∀ s, s < 16 → signF (s * 4 + p) (s * 4 + q) = if q ≠ p then 2 else 0 := by decide +kernel
theorem sgA_lt {k s t o : Nat} (ho : o < 256) (hs : s < 16) (h : k = 1 → s < 4) (hk : k < 3) : sgA k s t o < 64 := by
 unfold sgA
 have : k = 0 ∨ k = 1 ∨ k = 2 := by omega
 rcases this with rfl | rfl | rfl
 ·simp; omega
 ·have := h rfl; simp; omega
 ·simp; omega
theorem sgB_lt {k s t o : Nat} (ho : o < 256) (ht : t < 16) (h : k = 1 → t < 4) (hk : k < 3) : sgB k s t o < 64 := by
 unfold sgB
 have : k = 0 ∨ k = 1 ∨ k = 2 := by omega
 rcases this with rfl | rfl | rfl
 ·simp; omega
 ·have := h rfl; simp; omega
 ·simp; omega
theorem price_sg {k s t o n : Nat} (ho : o < 256) (hn : n < 256) (hs : s < 16) (ht : t < 16) (h : k = 1 → s < 4 ∧ t < 4) (hk : k < 3) : signF (sgA k s t n) (sgA k s t o) + signF (sgB k s t n) (sgB k s t o) = priceF k o n := by
 have : k = 0 ∨ k = 1 ∨ k = 2 := by omega
 rcases this with rfl | rfl | rfl
 ·show signF (n / 4) (o / 4) + signF (n % 4 * 16 + t) (o % 4 * 16 + t) = signF (o / 4) (n / 4) + (if o % 4 ≠ n % 4 then 2 else 0)
  rw [sgn_sym (n / 4), sg0 _ (by omega) _ (by omega) _ ht]
 ·refine an1 (h rfl) fun h1 h2 => ?_
  show signF (s * 16 + n / 16) (s * 16 + o / 16) + signF (n % 16 * 4 + t) (o % 16 * 4 + t) = (if o / 16 ≠ n / 16 then 2 else 0) + (if o % 16 ≠ n % 16 then 2 else 0)
  rw [sg1 _ (by omega) _ (by omega) _ h1, sg2 _ (by omega) _ (by omega) _ h2]
 ·show signF (s * 4 + n / 64) (s * 4 + o / 64) + signF (n % 64) (o % 64) = (if o / 64 ≠ n / 64 then 2 else 0) + signF (o % 64) (n % 64)
  rw [sg3 _ (by omega) _ (by omega) _ hs, sgn_sym (n % 64)]
theorem price64 (A B : List Nat) (hA : ∀ o ∈ A, o < 256) (hB : ∀ o ∈ B, o < 256) {o n : Nat} (ho : o < 256) (hn : n < 256) {b : Int} (hb : 4 ≤ b) : levF (eG (A ++ o :: B)) (eG (A ++ n :: B)) b = priceF (A.length % 3) o n := by
 refine oEEEEA (eG_at A B hA hB) fun P S s t ob1 hE => ?_
 obtain ⟨hs, ht, h1⟩ := ob1
 have hk : A.length % 3 < 3 := Nat.mod_lt _ (by decide)
 rw [hE, hE, lev_group _ _ _ _ _ _ (.inr hb), if_neg (by omega), subN64 (sgA_lt hn hs (fun e => (h1 e).1) hk) (sgA_lt ho hs (fun e => (h1 e).1) hk), subN64 (sgB_lt hn ht (fun e => (h1 e).2) hk) (sgB_lt ho ht (fun e => (h1 e).2) hk)]
 exact price_sg ho hn hs ht h1 hk
theorem b64C_inj : ∀ i, i < 64 → ∀ j, j < 64 → b64C i = b64C j → i = j := by decide +kernel
theorem zero64 (A B : List Nat) (hA : ∀ o ∈ A, o < 256) (hB : ∀ o ∈ B, o < 256) {o n : Nat} (ho : o < 256) (hn : n < 256) : levF (eG (A ++ o :: B)) (eG (A ++ n :: B)) 0 = if n = o then 0 else 1 := by
 refine oEEEEA (eG_at A B hA hB) fun P S s t ob2 hE => ?_
 obtain ⟨hs, ht, h1⟩ := ob2
 have hk : A.length % 3 < 3 := Nat.mod_lt _ (by decide)
 rw [hE, hE, lev_group _ _ _ _ _ _ (.inl rfl), if_pos rfl]
 by_cases h : n = o
 ·rw [if_pos h, h, if_pos ⟨rfl, rfl⟩]
 ·rw [if_neg h, if_neg]
  rintro ⟨e1, e2⟩
  have d1 := b64C_inj _ (sgA_lt ho hs (fun e => (h1 e).1) hk) _ (sgA_lt hn hs (fun e => (h1 e).1) hk) e1
  have d2 := b64C_inj _ (sgB_lt ho ht (fun e => (h1 e).2) hk) _ (sgB_lt hn ht (fun e => (h1 e).2) hk) e2
  apply h
  unfold sgA at d1
  unfold sgB at d2
  have : A.length % 3 = 0 ∨ A.length % 3 = 1 ∨ A.length % 3 = 2 := by omega
  rcases this with q | q | q
  ·rw [q] at d1 d2; simp at d1 d2; omega
  ·rw [q] at d1 d2; simp at d1 d2; omega
  ·rw [q] at d1 d2; simp at d1 d2; omega
end
section
open PySem PySem.W PyProof.Rows PySem.Calls PySem.Spec
theorem bytesOf_nats : ∀ {l : List Nat}, (∀ o ∈ l, o < 256) → (bytesOf l).toList.map UInt8.toNat = l
 | [], _ => rfl
 | x :: l, h => by
  have ih := bytesOf_nats fun o ho => h o (.tail _ ho)
  unfold bytesOf at ih ⊢
  simp only [List.map_cons] at ih ⊢
  rw [ih]
  congr 1
  have := h x (.head _)
  simp [Nat.toUInt8, UInt8.toNat_ofNat']
  omega
theorem bytesOf_size (l : List Nat) : (bytesOf l).size = l.length := by unfold bytesOf; simp
theorem hexUp_lt : ∀ n, n < 16 → hexUp n < 256 := by decide
theorem hexE_byte {l : List Nat} (h : ∀ o ∈ l, o < 256) : ∀ c ∈ hexE l, c < 256 := by
 intro c hc
 unfold hexE at hc
 refine oEA (List.mem_flatMap.mp hc) fun o ho hc => ?_
 have := h o ho
 rcases List.mem_cons.mp hc with rfl | hc
 ·exact hexUp_lt _ (by omega)
 ·rw [List.mem_singleton] at hc
  subst hc
  exact hexUp_lt _ (by omega)
theorem strs2 {x y : List Nat} {t t' : Tok} : StrsAre [.str (mkS x) t, .str (mkS y) t'] ([x, y].map mkS) := .cons _ _ (.cons _ _ .nil)
theorem sixF_byte {os : List Nat} (h3 : 3 ≤ os.length) (h6 : os.length ≤ 6) (ho : ∀ o ∈ os, o < 256) : ∀ c ∈ sixF os, c < 256 := by
 rw [← encF_sixF os h3 h6 ho]
 exact encF_byte os
theorem two_byte {x y : List Nat} (hx : ∀ c ∈ x, c < 256) (hy : ∀ c ∈ y, c < 256) : ∀ l ∈ [x, y], ∀ c ∈ l, c < 256 := by
 intro l hl
 rcases List.mem_cons.mp hl with rfl | hl
 ·exact hx
 ·rw [List.mem_singleton] at hl
  subst hl
  exact hy
section
variable {w : World} {mean : ExcName → Option Value} {mg mb : Str → Option Value} {cn : Str} {cs : Scope} {a : Addr} {ccd : Value} {cl : List (Str × Addr)} {base h₀ : Heap} {L : Addr} {m : Str → Option Value} {news : List (Addr × Obj)} {s : Shared} {Q E : Value → Shared → Prop} {os : List Nat} {tb : Tok} {l : Addr} {vs : List Value} {ep : Nat}
theorem law_b64 (B : Below callerA base [] h₀) (F : Fr h₀ L s.heap m) (X : (Mine.hd.heap_39 w.params).In h₀) (N : News h₀ L s.heap news) (T : Top vw loose0 mean mg mb h₀) (U : Uniq news) (ho : ∀ o ∈ os, o < 256) (hl : os.length ≤ 6)
  (hret : ∀ t h' tk', Fr h₀ L h' m → News h₀ L h' news → Q (.bytes (bytesOf (encF os)) t) { s with heap := h', toks := tk' }) (hk : cs.kind = .function := by rfl) :
  wpAny (model prg w) (callerA.deeper (envX cn cs L a ccd cl)) (call (.ref 74) [.bytes (bytesOf os) tb]) Q E s := by
 refine b64_spec (dp := callerA.depth + 1) (un := callerA.units + 3) (outer := []) B F X N T hk (by ktr_room) (by ktr_units) U (by rw [bytesOf_size]; exact hl) ?_
 rw [bytesOf_nats ho]
 exact hret
theorem law_b16 (B : Below callerA base [] h₀) (F : Fr h₀ L s.heap m) (X : (Mine.hd.heap_39 w.params).In h₀) (N : News h₀ L s.heap news) (T : Top vw loose0 mean mg mb h₀) (ho : ∀ o ∈ os, o < 256) (hl : os.length ≤ 6) (hl1 : 1 ≤ os.length)
  (hret : ∀ t h' tk', Fr h₀ L h' m → News h₀ L h' news → Q (.bytes (bytesOf (hexE os)) t) { s with heap := h', toks := tk' }) (hk : cs.kind = .function := by rfl) :
  wpAny (model prg w) (callerA.deeper (envX cn cs L a ccd cl)) (call (.ref 81) [.bytes (bytesOf os) tb]) Q E s := by
 refine b16_spec (dp := callerA.depth + 1) (un := callerA.units + 3) (outer := []) B F X N T hk (by ktr_room) (by ktr_units) (by rw [bytesOf_size]; exact hl) (by rw [bytesOf_size]; exact hl1) ?_
 rw [bytesOf_nats ho]
 exact hret
theorem law_text (B : Below callerA base [] h₀) (F : Fr h₀ L s.heap m) (X : (Mine.hd.heap_39 w.params).In h₀) (N : News h₀ L s.heap news) (T : Top vw loose0 mean mg mb h₀) (ho : ∀ o ∈ os, o < 256) (hl : os.length ≤ 100)
  (hret : ∀ t h' tk', Fr h₀ L h' m → News h₀ L h' news → Q (.str (mkS os) t) { s with heap := h', toks := tk' }) (hk : cs.kind = .function := by rfl) :
  wpAny (model prg w) (callerA.deeper (envX cn cs L a ccd cl)) (call (.ref 218) [.bytes (bytesOf os) tb]) Q E s := by
 refine text_spec (dp := callerA.depth + 1) (un := callerA.units + 3) (outer := []) B F X N T hk (by ktr_room) (by ktr_units) (by rw [bytesOf_size]; exact hl) ?_
 rw [bytesOf_nats ho]
 exact hret
theorem law_sixes (B : Below callerA base [] h₀) (F : Fr h₀ L s.heap m) (X : (Mine.hd.heap_39 w.params).In h₀) (N : News h₀ L s.heap news) (T : Top vw loose0 mean mg mb h₀) (hl : (l, listOf vs.toArray ep) ∈ news) (hv : IntsAre vs (os.map fun (c : Nat) => (c : Int))) (ho : ∀ o ∈ os, o < 256) (hol : os.length ≤ 6)
  (hret : ∀ t h' tk', Fr h₀ L h' m → News h₀ L h' news → Q (.str (mkS (sixF os)) t) { s with heap := h', toks := tk' }) (hk : cs.kind = .function := by rfl) :
  wpAny (model prg w) (callerA.deeper (envX cn cs L a ccd cl)) (call (.ref 208) [.ref l]) Q E s :=
 sixes_spec (dp := callerA.depth + 1) (un := callerA.units + 3) (outer := []) B F X N T hk (by ktr_room) (by ktr_units) hl hv ho hol hret
theorem law_halves (B : Below callerA base [] h₀) (F : Fr h₀ L s.heap m) (X : (Mine.hd.heap_39 w.params).In h₀) (N : News h₀ L s.heap news) (T : Top vw loose0 mean mg mb h₀) (U : Uniq news) (hl : (l, listOf vs.toArray ep) ∈ news) (hv : IntsAre vs (os.map fun (c : Nat) => (c : Int))) (ho : ∀ o ∈ os, o < 256) (hol : os.length ≤ 6)
  (hret : ∀ t h' tk', Fr h₀ L h' m → News h₀ L h' news → Q (.str (mkS (hexE os)) t) { s with heap := h', toks := tk' }) (hk : cs.kind = .function := by rfl) :
  wpAny (model prg w) (callerA.deeper (envX cn cs L a ccd cl)) (call (.ref 213) [.ref l]) Q E s :=
 halves_spec (dp := callerA.depth + 1) (un := callerA.units + 3) (outer := []) B F X N T hk (by ktr_room) (by ktr_units) U hl hv ho hol hret
theorem law_bytes {A : Around} {prog : Program} (F : Fr h₀ L s.heap m) (N : News h₀ L s.heap news) (hm : (l, listOf vs.toArray ep) ∈ news) (hv : IntsAre vs (os.map fun (c : Nat) => (c : Int))) (ho : ∀ o ∈ os, o < 256) (hol : os.length ≤ 6)
  (hret : ∀ t h' k', Fr h₀ L h' m → News h₀ L h' news → Q (.bytes (bytesOf os) t) { s with heap := h', toks := k' }) (hh : A.handled = none := by rfl) :
  wpAny (model prog w) A (call (.type "bytes") [.ref l]) Q E s := by
 refine bytes_K F N (News.isList N hm) hv (fun n hn => ?_) ?_ hh ?_
 ·refine oEA (List.mem_map.mp hn) fun c hc er1 => ?_
  subst er1
  have := ho c hc
  omega
 ·have := hv.length
  rw [List.length_map] at this
  rw [sizeLine_eq]; omega
 ·intro h9 t9 k9 F9 N9 _
  rw [bytesOf_ints]
  exact hret _ _ _ F9 N9
end
end
section
open PySem PySem.W PyProof.Rows PySem.Calls PySem.Spec
section
variable {prog : Program} {w : World} {A : Around} {E : Value → Shared → Prop} {s : Shared}
theorem collect_tup {l : Addr} {vs : List Value} {Q : List Value → Shared → Prop} (hl : s.heap.IsTuple l vs.toArray)
  (h : Q vs { s with heap := (s.heap.push (seqObj "list" #[] 0)).update s.heap.objs.size (Obj.mapSeq (· ++ vs.toArray)) }) (hsz : vs.length ≤ sizeLine) :
  wpAny (model prog w) A (collect (.ref l)) Q E s := by
 refine oEAAE (id hl) fun o ho hc n hd => ?_
 unfold collect
 refine wpAny_bind (wpAny_runValue (codeAny_builtin entry_proto_collect' ?_))
 show wpAny _ _ (do again (.builtin "list.__iadd__" ⟨[← newList [], .ref l], []⟩)) _ _ s
 refine wpAny_bind (wpAny_newList (wpAny_pure ⟨Code.quiet_builtin _ (by decide +kernel), codeAny_builtin entry_list_iadd' ?_⟩))
 show wpAny _ _ (Builtin.List.listExtendWith (.ref s.heap.objs.size) (.ref l) (.ref s.heap.objs.size)) _ _ { s with heap := s.heap.push (seqObj "list" #[] 0) }
 unfold Builtin.List.listExtendWith
 have ho' : (s.heap.push (seqObj "list" #[] 0)).get? l = some o := Heap.get?_push_of_some _ ho
 refine wpAny_bind (wpAny_typeOf (T := "tuple") ⟨o, ho', hc⟩ ?_)
 have ht : (Value.type "tuple" == Value.type "tuple") = true := by rfl
 rw [if_pos (by rw [ht]; simp)]
 refine wpAny_bind (listItems_at ho' hd ?_)
 refine wpAny_bind (listItems_at (xs := #[]) (n := 0) (Heap.get?_push_size _ rfl) rfl ?_)
 rw [if_neg (by simp)]
 refine wpAny_bind (listUpdate_at (xs := #[]) (n := 0) (Heap.get?_push_size _ rfl) rfl ?_ (Nat.zero_le _) (by show (#[] ++ vs.toArray).size ≤ sizeLine + 1; simp only [Array.size_append, List.size_toArray, List.length_nil]; omega))
 refine wpAny_pure ?_
 show wpAny (model prog w) A (do
   let o ← load s.heap.objs.size
   match o.data with
   | .seq xs _ => pure xs.toList
   | _ => unsupported "internal:collect") Q E { s with heap := (s.heap.push (seqObj "list" #[] 0)).update s.heap.objs.size (Obj.mapSeq (· ++ vs.toArray)) }
 refine wpAny_bind (wpAny_load (get?_update_seq (Heap.get?_push_size _ rfl) _) ?_)
 show wpAny _ _ (pure ((#[] : Array Value) ++ vs.toArray).toList) Q E _
 rw [show ((#[] : Array Value) ++ vs.toArray).toList = vs by simp]
 exact wpAny_pure h
theorem sorted_tup {l : Addr} {vs : List Value} {ns : List Int} {Q : Value → Shared → Prop} (hl : s.heap.IsTuple l vs.toArray) (hI : IntsAre vs ns) (h64 : vs.length < 64)
  (h : ∀ (out : Array Value) (ns' : List Int), IntsAre out.toList ns' → ns'.Perm ns → ns'.Pairwise (· ≤ ·) → Q (.ref (s.heap.objs.size + 1)) { s with heap := sortedAll s.heap vs out }) :
  wpAny (model prog w) A (call (.builtin "sorted") [.ref l]) Q E s := by
 refine Calls.call_function_entry kind_sorted plain_sorted entry_sorted (args_sorted1 _) ?_
 unfold Builtin.«sorted»
 refine wpAny_bind (m := checkCount "sorted" 1 1 _) (wpAny_pure ?_)
 refine wpAny_bind (collect_tup hl ?_ (by rw [sizeLine_eq]; omega))
 refine wpAny_bind (wpAny_newList ?_)
 have hsz : ((s.heap.push (seqObj "list" #[] 0)).update s.heap.objs.size (Obj.mapSeq (· ++ vs.toArray))).objs.size = s.heap.objs.size + 1 := by
  rw [Heap.size_update, size_push']
 have hoL : (((s.heap.push (seqObj "list" #[] 0)).update s.heap.objs.size (Obj.mapSeq (· ++ vs.toArray))).push (seqObj "list" vs.toArray 0)).get? (s.heap.objs.size + 1) = some (seqObj "list" vs.toArray 0) := by
  rw [← hsz]; exact Heap.get?_push_size _ rfl
 show wpAny _ _ _ _ _ { s with heap := ((s.heap.push (seqObj "list" #[] 0)).update s.heap.objs.size (Obj.mapSeq (· ++ vs.toArray))).push (seqObj "list" vs.toArray 0) }
 rw [hsz]
 refine wpAny_bind (wpAny_holding (wpAny_call_entry slot_list_sort ⟨_, hoL, rfl⟩ entry_list_sort (list_sort_tree hoL hI h64 fun out ns' a1 a2 a3 => ⟨_, rfl, ?_⟩) (args_list_sort _)))
 exact wpAny_pure ⟨_, rfl, h out ns' a1 a2 a3⟩
theorem sorted_tupK {h₀ : Heap} {L : Addr} {m : Str → Option Value} {news : List (Addr × Obj)} {l : Addr} {vs : List Value} {ns : List Int} {Q : Value → Shared → Prop}
  (F : Fr h₀ L s.heap m) (N : News h₀ L s.heap news) (hm : (l, tupOf vs) ∈ news) (hI : IntsAre vs ns) (h64 : vs.length < 64)
  (h : ∀ (D : Addr) (h' : Heap) (vs' : List Value) (ns' : List Int) (e : Nat), Fr h₀ L h' m → News h₀ L h' ((D, listOf vs'.toArray e) :: news) → (∀ p ∈ news, p.1 < D) →
   IntsAre vs' ns' → ns'.Perm ns → ns'.Pairwise (· ≤ ·) → Q (.ref D) { s with heap := h' }) :
  wpAny (model prog w) A (call (.builtin "sorted") [.ref l]) Q E s := by
 refine sorted_tup ⟨_, N.get hm, rfl, _, rfl⟩ hI h64 fun out ns' a1 a2 a3 => ?_
 refine ex1 (sortedAll_at s.heap vs out) fun e he => ?_
 exact h _ _ out.toList ns' e (F.kept fun _ _ => sortedAll_old) (N.kept_cons F (fun _ _ => sortedAll_old) (Nat.le_succ _) he) (fun p hp => Nat.lt_succ_of_lt (Heap.lt_size (N p hp).1)) a1 a2 a3
end
theorem sorted_eq {xs ys : List Int} (hp : xs.Perm ys) (hx : xs.Pairwise (· ≤ ·)) (hy : ys.Pairwise (· ≤ ·)) : xs = ys :=
 hp.eq_of_pairwise (fun a b _ _ h1 h2 => Int.le_antisymm h1 h2) hx hy
theorem rng_sorted (n : Nat) : (rng n).Pairwise (· ≤ ·) := by
 unfold rng
 refine List.Pairwise.map _ (fun a b h => ?_) (List.pairwise_lt_range (n := n))
 exact Int.ofNat_le.mpr (Nat.le_of_lt h)
theorem left_sorted (need : Int → List Int) (n : Nat) : ∀ t, (leftI need n t).Pairwise (· ≤ ·)
 | 0 => rng_sorted n
 | t + 1 => (left_sorted need n t).filter _
theorem free_sorted (need : Int → List Int) (n t : Nat) : (freeF need (leftI need n t)).Pairwise (· ≤ ·) := (left_sorted need n t).filter _
end
section
open PySem PySem.W PyProof.Rows PySem.Calls PySem.Spec
section
variable {w : World} {L : Addr} {nw : Ledger} {Y : Lay} {keys : List Int} {np : Int → Int} {succ : Int → List Int} {rd : Value} {po fi : Int} {c : Nat → Option Value} {rest : Ledger}
theorem SL.drop {a : Addr} {o : Obj} (S : SL w L nw Y keys np succ rd po fi c ((a, o) :: rest)) (h : ∀ p ∈ rest, p.1 ≠ a) : SL w L (dropA nw a) Y keys np succ rd po fi c rest := by
 refine oEA (S.ex) fun R2 I C => ?_
 have hm := (C.rst _ (.head _)).1
 refine ⟨dropA R2 a, SIn.drop (o := o) (I.sub (rest' := (a, o) :: dropA R2 a) (List.forall_mem_cons.mpr ⟨hm, fun p hp => (List.mem_filter.mp hp).1⟩)) dropA_ne, C.drop h⟩
end
section
variable {w : World} {mean : ExcName → Option Value} {mg mb : Str → Option Value} {cn : Str} {cs : Scope} {a : Addr} {ccd : Value} {cl : List (Str × Addr)} {base h₀ : Heap} {L : Addr} {m : Str → Option Value} {news rest : List (Addr × Obj)} {s : Shared} {Q E : Value → Shared → Prop}
 {Y : Lay} {keys : List Int} {np : Int → Int} {succ : Int → List Int} {rd : Value} {po fi : Int} {c : Nat → Option Value} {R : Addr} {vs : List Value} {ep : Nat} {rs : List Int}
theorem law_lev {x y : List Nat} {b : Int} {tx ty tc : Tok} (B : Below callerA base [] h₀) (F : Fr h₀ L s.heap m) (X : (Mine.hd.heap_39 w.params).In h₀) (N : News h₀ L s.heap news) (T : Top vw loose0 mean mg mb h₀) (hx : x.length ≤ 30) (hy : y.length ≤ 30)
  (hret : ∀ t h' tk', Fr h₀ L h' m → News h₀ L h' news → Q (.int (levF x y b) t) { s with heap := h', toks := tk' }) (hk : cs.kind = .function := by rfl) :
  wpAny (model prg w) (callerA.deeper (envX cn cs L a ccd cl)) (call (.ref 35) [.str (mkS x) tx, .str (mkS y) ty, .int b tc]) Q E s :=
 lev_spec (dp := callerA.depth + 1) (un := callerA.units + 3) (outer := []) B F X N T hk (by ktr_room) (by ktr_units) (by rw [mkS_len]; exact hx) (by rw [mkS_len]; exact hy) hret
theorem law_price {k x y : Nat} {i : Int} {ti tx ty : Tok} (B : Below callerA base [] h₀) (F : Fr h₀ L s.heap m) (X : (Mine.hd.heap_39 w.params).In h₀) (N : News h₀ L s.heap news) (T : Top vw loose0 mean mg mb h₀) (hi : i = (k : Int))
  (hret : ∀ t h' tk', Fr h₀ L h' m → News h₀ L h' news → Q (.int (priceF k x y) t) { s with heap := h', toks := tk' }) (hk : cs.kind = .function := by rfl) :
  wpAny (model prg w) (callerA.deeper (envX cn cs L a ccd cl)) (call (.ref 232) [.int i ti, .int (x : Nat) tx, .int (y : Nat) ty]) Q E s :=
 price_spec (dp := callerA.depth + 1) (un := callerA.units + 3) (outer := []) B F X N T hk (by ktr_room) (by ktr_units) hi hret
theorem law_active (B : Below callerA base [] h₀) (F : Fr h₀ L s.heap m) (X : (Mine.hd.heap_39 w.params).In h₀) (N : News h₀ L s.heap news) (T : Top vw loose0 mean mg mb h₀) (S : SL w L news Y keys np succ (.ref R) po fi c rest) (hR : (R, listOf vs.toArray ep) ∈ rest) (hv : vs.length ≤ 1000)
  (hret : ∀ h' tk', Fr h₀ L h' m → News h₀ L h' news → Q (.bool (decide (fi < po) || !vs.isEmpty)) { s with heap := h', toks := tk' }) (hk : cs.kind = .function := by rfl) :
  wpAny (model prg w) (callerA.deeper (envX cn cs L a ccd cl)) (call (.ref 166) [.ref Y.S]) Q E s := by
 refine oEA (S.ex) fun R2 I C => ?_
 exact active_spec (dp := callerA.depth + 1) (un := callerA.units + 3) (outer := []) B F X N T hk (by ktr_room) (by ktr_units) I (C.rst _ hR).1 hv hret
theorem law_ready (B : Below callerA base [] h₀) (F : Fr h₀ L s.heap m) (X : (Mine.hd.heap_39 w.params).In h₀) (N : News h₀ L s.heap news) (T : Top vw loose0 mean mg mb h₀) (S : SL w L news Y keys np succ (.ref R) po fi c rest) (hR : (R, listOf vs.toArray ep) ∈ rest) (hv : vs.length ≤ 1000) (h0 : vs ≠ []) (hvs : IntsAre vs rs) (hrs : ∀ k ∈ rs, k ∈ keys)
  (hret : ∀ D e' news' h' tk', (∀ p ∈ rest, p.1 ≠ D) → SL w L news' Y keys (fun j => if j ∈ rs then -1 else np j) succ (.ref R) (po + rs.length) fi c ((D, tupOf vs) :: setL rest R (listOf #[] e')) → Fr h₀ L h' m → News h₀ L h' news' → Q (.ref D) { s with heap := h', toks := tk' }) (hk : cs.kind = .function := by rfl) :
  wpAny (model prg w) (callerA.deeper (envX cn cs L a ccd cl)) (call (.ref 159) [.ref Y.S]) Q E s := by
 refine oEA (S.ex) fun R2 I C => ?_
 refine ready_spec (dp := callerA.depth + 1) (un := callerA.units + 3) (outer := []) B F X N T hk (by ktr_room) (by ktr_units) I (C.rst _ hR).1 hv h0 hvs hrs fun D e' news' h' tk' l I' F' N' => ?_
 refine hret D e' news' h' tk' (fun p hp => Nat.ne_of_lt (l p (S.mem hp))) ⟨_, I', (C.set hR).cons fun p hp => ?_⟩ F' N'
 refine oEA (List.mem_map.mp hp) fun q hq er1 => ?_
 subst er1
 have := l q (I.rst q hq).1
 by_cases e : q.1 = R
 ·rw [if_pos e]; exact Nat.ne_of_lt (e ▸ this)
 ·rw [if_neg e]; exact Nat.ne_of_lt this
theorem law_done {k : Int} {tk : Tok} (B : Below callerA base [] h₀) (F : Fr h₀ L s.heap m) (X : (Mine.hd.heap_39 w.params).In h₀) (N : News h₀ L s.heap news) (T : Top vw loose0 mean mg mb h₀) (S : SL w L news Y keys np succ (.ref R) po fi c rest) (hR : (R, listOf vs.toArray ep) ∈ rest) (hv : vs.length + (succ k).length ≤ 1000) (hvs : IntsAre vs rs) (hkk : k ∈ keys) (hnp : np k = -1) (hss : ∀ j ∈ succ k, j ∈ keys)
  (hret : ∀ vs' e' news' h' tk', IntsAre vs' (doneD (fun j => if j = k then -2 else np j) rs (succ k)).2 → SL w L news' Y keys (doneD (fun j => if j = k then -2 else np j) rs (succ k)).1 succ (.ref R) po (fi + 1) c (setL rest R (listOf (List.toArray vs') e')) → Fr h₀ L h' m → News h₀ L h' news' → Q .none { s with heap := h', toks := tk' }) (hk : cs.kind = .function := by rfl) :
  wpAny (model prg w) (callerA.deeper (envX cn cs L a ccd cl)) (call (.ref 180) [.ref Y.S, .int k tk]) Q E s := by
 refine oEA (S.ex) fun R2 I C => ?_
 refine done_spec (dp := callerA.depth + 1) (un := callerA.units + 3) (outer := []) B F X N T hk (by ktr_room) (by ktr_units) I (C.rst _ hR).1 hv hvs hkk hnp hss fun vs' e' news' h' tk' hi I' F' N' => ?_
 exact hret vs' e' news' h' tk' hi ⟨_, I', C.set hR⟩ F' N'
end
section
variable {prog : Program} {w : World} {A : Around} {E : Value → Shared → Prop} {s : Shared} {h₀ : Heap} {L l : Addr} {m : FMap} {news rest : Ledger} {Q : Value → Shared → Prop} {vs : List Value} {ep : Nat}
theorem itemK {k : Int} {t : Tok} {x : Value} (N : News h₀ L s.heap news) (hm : (l, listOf vs.toArray ep) ∈ news) (h0 : 0 ≤ k) (hfit : k < 2 ^ 63) (hx : vs[k.toNat]? = some x) (h : Q x s) : wpAny (model prog w) A (getItem (.ref l) (.int k t)) Q E s :=
 wpAny_getItem_list (News.isList N hm) h0 hfit (by simpa using hx) h
theorem sl_ns {l : List Nat} {value slice : PySem.Expr} {t : Tok} {p : Nat} {i : Int} {ui : Tok} (hi : i = (p : Int)) (hp : p ≤ l.length) (hF : Fr h₀ L s.heap m) (hN : News h₀ L s.heap news) (h : ∀ h' t' k, Fr h₀ L h' m → News h₀ L h' news → Q (.str (mkS (l.take p)) t') { s with heap := h', toks := k })
  (hs : subscripted slice false (.str (mkS l) t) (.ref s.heap.objs.size) = operate [.ref s.heap.objs.size, .str (mkS l) t] (getItem (.str (mkS l) t) (.ref s.heap.objs.size)) := by with_unfolding_all rfl)
  (ht : ∀ r, letTemporaryGo value (.str (mkS l) t) r = pure () := by intro _; with_unfolding_all rfl) (hsz : (mkS l).length ≤ sizeLine := by size_fits) :
  wpAny (model prog w) A (subscriptTail value slice (.str (mkS l) t) (.ref s.heap.objs.size)) Q E { s with heap := s.heap.push { cls := .type "slice", data := .fields #[.none, .int i ui, .none] } } :=
 slice_strN_ns hF hN (by rw [hi, slice_take hp]; exact h) hs ht hsz
end
section
variable {M : Model} {A : Around} {E : Value → Shared → Prop} {s : Shared} {h₀ : Heap} {L a : Addr} {m : FMap} {cn : Str} {cs : Scope} {ccd : Value} {cl : List (Str × Addr)} {x : Str} {v : Value} {news rest : Ledger} {c : Nat → Option Value}
 {w : World} {Y : Lay} {keys : List Int} {np : Int → Int} {succ : Int → List Int} {rd : Value} {po fi : Int}
theorem read_SL {i : Nat} {pos : Pos} {Q : Value → Shared → Prop} (C : SL w L news Y keys np succ rd po fi c rest) (N : News h₀ L s.heap news) (hc : cl.lookup x = some (L + 1 + i)) (hi : i < 7) (hv : c i = some v) (h : Q v s)
  (hk : cs.kind = .function := by rfl) (hx : (envX cn cs L a ccd cl).kindOf x = some .cell := by rfl) (hb : (x == ("__debug__" : Str)) = false := by decide) : wpAny M A (eval (.Name x pos) (envX cn cs L a ccd cl)) Q E s :=
 read_LF C.lf N hc hi hv h hk hx hb
end
section
variable {M : Model} {A : Around} {E : Value → Shared → Prop} {s : Shared} {h₀ : Heap} {L a : Addr} {m : FMap} {cn : Str} {cs : Scope} {ccd : Value} {cl : List (Str × Addr)} {x : Str} {v : Value} {news rest : Ledger} {c : Nat → Option Value}
 {w : World} {Y : Lay} {keys : List Int} {np : Int → Int} {succ : Int → List Int} {rd : Value} {po fi : Int} {i : Nat}
theorem rdS {pos : Pos} {Q : Value → Shared → Prop} (ix : lawIx x = some i) (hx : (envX cn cs L a ccd cl).kindOf x = some .cell) (hk : cs.kind = .function) (C : SL w L news Y keys np succ rd po fi c rest) (N : News h₀ L s.heap news) (hc : cl.lookup x = some (L + 1 + i)) (hv : c i = some v) (h : Q v s)
  (hb : (x == ("__debug__" : Str)) = false := by decide) : wpAny M A (eval (.Name x pos) (envX cn cs L a ccd cl)) Q E s := read_LF C.lf N hc (lawIx_lt ix) hv h hk hx hb
theorem stS {Q : Unit → Shared → Prop} (ix : lawIx x = some i) (hx : (envX cn cs L a ccd cl).kindOf x = some .cell) (hk : cs.kind = .function) (C : SL w L news Y keys np succ rd po fi c rest) (F : Fr h₀ L s.heap m) (N : News h₀ L s.heap news) (hc : cl.lookup x = some (L + 1 + i))
  (h : ∀ h' nw, Fr h₀ L h' m → News h₀ L h' nw → SL w L nw Y keys np succ rd po fi (setC c i v) rest → Q () { s with heap := h' }) : wpAny M A (storeName (envX cn cs L a ccd cl) x v) Q E s := store_SL C F N hc (lawIx_lt ix) h hk hx
end
noncomputable def rowU (cs : List Int) (n : Nat) (U : List Int) : List Nat := (List.range n).map fun (k : Nat) => if (k : Int) ∈ U then oldN cs k else newN cs k
theorem rowU_len (cs : List Int) (n : Nat) (U : List Int) : (rowU cs n U).length = n := by simp [rowU]
theorem rowU_lt (cs : List Int) (n : Nat) (U : List Int) : ∀ o ∈ rowU cs n U, o < 256 := by
 intro o ho
 refine oEA (List.mem_map.mp ho) fun k _ er2 => ?_
 subst er2
 split
 ·exact oldN_lt _ _
 ·exact newN_lt _ _
theorem rowU_all (cs : List Int) (n : Nat) : rowU cs n (rng n) = (List.range n).map (oldN cs) := by
 unfold rowU
 apply List.map_congr_left
 intro k hk
 rw [if_pos (mem_rng.mpr ⟨by omega, by have := List.mem_range.mp hk; omega⟩)]
theorem rowU_set {cs : List Int} {n k : Nat} {U : List Int} (hk : k < n) : rowU cs n (U.filter fun j => decide (j ≠ (k : Int))) = (rowU cs n U).set k (newN cs k) := by
 apply List.ext_getElem
 ·rw [List.length_set, rowU_len, rowU_len]
 ·intro i h1 h2
  rw [List.getElem_set]
  unfold rowU
  simp only [List.getElem_map, List.getElem_range, List.mem_filter, decide_eq_true_eq]
  by_cases e : k = i
  ·subst e; simp
  ·rw [if_neg e]
   have : (i : Int) ≠ (k : Int) := fun q => e (Int.ofNat.inj q).symm
   simp [this]
theorem rowU_at {cs : List Int} {n k : Nat} {U : List Int} (hk : k < n) (hU : (k : Int) ∈ U) : ∃ A B, A.length = k ∧ (∀ o ∈ A, o < 256) ∧ (∀ o ∈ B, o < 256) ∧ rowU cs n U = A ++ oldN cs k :: B ∧ rowU cs n (U.filter fun j => decide (j ≠ (k : Int))) = A ++ newN cs k :: B := by
 have hl := rowU_len cs n U
 have hk' : k < (rowU cs n U).length := by omega
 have hg : (rowU cs n U)[k] = oldN cs k := by
  have e : (rowU cs n U)[k]? = some (oldN cs k) := by
   unfold rowU
   rw [List.getElem?_map, List.getElem?_range hk, Option.map_some, if_pos hU]
  exact Option.some.inj ((List.getElem?_eq_getElem hk').symm.trans e)
 have hsp : rowU cs n U = (rowU cs n U).take k ++ oldN cs k :: (rowU cs n U).drop (k + 1) := by
  conv => lhs; rw [← List.take_append_drop k (rowU cs n U), List.drop_eq_getElem_cons hk', hg]
 refine ⟨(rowU cs n U).take k, (rowU cs n U).drop (k + 1), by rw [List.length_take]; omega, fun o ho => rowU_lt _ _ _ o (List.mem_of_mem_take ho), fun o ho => rowU_lt _ _ _ o (List.mem_of_mem_drop ho), hsp, ?_⟩
 rw [rowU_set hk]
 have hlt : ((rowU cs n U).take k).length = k := by rw [List.length_take]; omega
 conv => lhs; rw [hsp]
 rw [List.set_append_right _ _ (by omega), hlt, Nat.sub_self]
 rfl
theorem setL_ne {l : Ledger} {a : Addr} {o : Obj} (h : ∀ p ∈ l, p.1 ≠ a) : setL l a o = l := setL_off h
theorem strs_two {va : List Value} {x y : List Nat} (h : StrsAre va ([x, y].map mkS)) : ∃ t t', va = [.str (mkS x) t, .str (mkS y) t'] := by
 have h' : StrsAre va [mkS x, mkS y] := h
 cases h' with
 | cons _ t r =>
  cases r with
  | cons _ t' r' =>
   cases r'
   exact ⟨t, t', rfl⟩
theorem enc_le {l : List Nat} (h : l.length ≤ 6) : (encF l).length ≤ 30 := by
 have := encF_len l
 omega
theorem hex_le {l : List Nat} (h : l.length ≤ 6) : (hexE l).length ≤ 30 := by
 have := hexE_len l
 omega
section
variable {prog : Program} {w : World} {A : Around} {E : Value → Shared → Prop} {s : Shared} {h₀ : Heap} {L l : Addr} {m : FMap} {news rest : Ledger} {Q : Value → Shared → Prop} {vs : List Value} {ep : Nat}
theorem itemO {n k : Nat} {g : Nat → Nat} {t : Tok} (N : News h₀ L s.heap news) (hm : (l, listOf vs.toArray ep) ∈ news) (hi : IntsAre vs (((List.range n).map g).map fun (c : Nat) => (c : Int))) (hk : k < n) (h : ∀ t, Q (.int (g k : Nat) t) s) (hn : n ≤ 6 := by omega) : wpAny (model prog w) A (getItem (.ref l) (.int (k : Nat) t)) Q E s := by
 refine ksa_get N hm hi (by omega) (by rw [List.length_map, List.length_map, List.length_range]; omega) (by omega) ?_
 have e : (((List.range n).map g).map fun (c : Nat) => (c : Int)).getD ((k : Int)).toNat 0 = ((g k : Nat) : Int) := by
  rw [Int.toNat_natCast, List.getD_eq_getElem?_getD, List.getElem?_map, List.getElem?_map, List.getElem?_range hk]
  rfl
 rw [e]
 exact h
end
section
variable {prog : Program} {w : World} {A : Around} {E : Value → Shared → Prop} {s : Shared} {h₀ : Heap} {L l : Addr} {m : FMap} {news rest : Ledger} {Q : Value → Shared → Prop} {vs : List Value} {ep : Nat} {value slice : PySem.Expr}
theorem subK {k : Int} {t : Tok} {x : Value} (N : News h₀ L s.heap news) (hm : (l, listOf vs.toArray ep) ∈ news) (h0 : 0 ≤ k) (hfit : k < 2 ^ 63) (hx : vs[k.toNat]? = some x) (h : Q x s)
  (hs : subscripted slice false (.ref l) (.int k t) = operate [.ref l, .int k t] (getItem (.ref l) (.int k t)) := by with_unfolding_all rfl) : wpAny (model prog w) A (subscriptTail value slice (.ref l) (.int k t)) Q E s :=
 tail_any (News.isList N hm).typeIs slot_list_getitem.lookup (itemK N hm h0 hfit hx h) hs
theorem subO {n k : Nat} {g : Nat → Nat} {t : Tok} (N : News h₀ L s.heap news) (hm : (l, listOf vs.toArray ep) ∈ news) (hi : IntsAre vs (((List.range n).map g).map fun (c : Nat) => (c : Int))) (hk : k < n) (h : ∀ t, Q (.int (g k : Nat) t) s) (hn : n ≤ 6 := by omega)
  (hs : subscripted slice false (.ref l) (.int (k : Nat) t) = operate [.ref l, .int (k : Nat) t] (getItem (.ref l) (.int (k : Nat) t)) := by with_unfolding_all rfl) : wpAny (model prog w) A (subscriptTail value slice (.ref l) (.int (k : Nat) t)) Q E s :=
 tail_any (News.isList N hm).typeIs slot_list_getitem.lookup (itemO N hm hi hk h hn) hs
end
theorem ints2 {x y : Int} {t t' : Tok} : IntsAre [.int x t, .int y t'] [x, y] := .cons _ _ (.cons _ _ .nil)
theorem row_byte {A B : List Nat} {o : Nat} (hA : ∀ o ∈ A, o < 256) (hB : ∀ o ∈ B, o < 256) (ho : o < 256) : ∀ x ∈ A ++ o :: B, x < 256 := by
 intro x hx
 rcases List.mem_append.mp hx with h | h
 ·exact hA x h
 ·rcases List.mem_cons.mp h with rfl | h
  ·exact ho
  ·exact hB x h
theorem prices_eq {A B : List Nat} {k o n : Nat} {b : Int} (hA : ∀ o ∈ A, o < 256) (hB : ∀ o ∈ B, o < 256) (ho : o < 256) (hn : n < 256) (hk : A.length = k) (h3 : 3 ≤ A.length + (B.length + 1)) (h6 : A.length + (B.length + 1) ≤ 6) (hb : 4 ≤ b) :
  [levF (encF (A ++ o :: B)) (encF (A ++ n :: B)) b, levF (hexE (A ++ o :: B)) (hexE (A ++ n :: B)) b] = [priceF (k % 3) o n, priceF 1 o n] := by
 have e := fun x (hx : x < 256) => encF_eG (A ++ x :: B) (by rw [List.length_append, List.length_cons]; exact h3) (by rw [List.length_append, List.length_cons]; exact h6) (row_byte hA hB hx)
 rw [e o ho, e n hn, price64 A B hA hB ho hn hb, price16 A B ho hn hb, hk]
theorem short_eq {A B : List Nat} {k n : Nat} (hA : A.length = k) : (hexE (A ++ n :: B)).take (2 * k + 1) ++ (hexE (A ++ n :: B)).drop (2 * k + 2) = hexE A ++ (hexUp (n / 16) :: hexE B) := by
 have hl : (hexE A).length = 2 * k := by rw [hexE_len, hA]
 rw [hexE_at, List.take_append, List.drop_append, hl, List.take_of_length_le (by omega), List.drop_of_length_le (by omega), show 2 * k + 1 - 2 * k = 1 by omega, show 2 * k + 2 - 2 * k = 2 by omega]
 simp
theorem mem16 (o n : Nat) : decide ((n : Int).fdiv 16 ∈ [(o : Int).fdiv 16, (o : Int).fmod 16]) = decide (n / 16 = o / 16 ∨ n / 16 = o % 16) := by
 have h1 : (n : Int).fdiv 16 = ((n / 16 : Nat) : Int) := by rw [Int.fdiv_eq_ediv_of_nonneg _ (by decide)]; omega
 have h2 : (o : Int).fdiv 16 = ((o / 16 : Nat) : Int) := by rw [Int.fdiv_eq_ediv_of_nonneg _ (by decide)]; omega
 rw [h1, h2, mod16]
 apply decide_eq_decide.mpr
 rw [List.mem_cons, List.mem_singleton]
 constructor
 ·rintro (h | h)
  ·exact .inl (Int.ofNat.inj h)
  ·exact .inr (Int.ofNat.inj h)
 ·rintro (h | h)
  ·exact .inl (by rw [h])
  ·exact .inr (by rw [h])
theorem zero_eq {A B : List Nat} {o n : Nat} (hA : ∀ o ∈ A, o < 256) (hB : ∀ o ∈ B, o < 256) (ho : o < 256) (hn : n < 256) (h3 : 3 ≤ A.length + (B.length + 1)) (h6 : A.length + (B.length + 1) ≤ 6) :
  levF (encF (A ++ o :: B)) (encF (A ++ n :: B)) 0 = if n = o then 0 else 1 := by
 have e := fun x (hx : x < 256) => encF_eG (A ++ x :: B) (by rw [List.length_append, List.length_cons]; exact h3) (by rw [List.length_append, List.length_cons]; exact h6) (row_byte hA hB hx)
 rw [e o ho, e n hn, zero64 A B hA hB ho hn]
structure FX where
 w : World
 L : Addr
 cs : List Int
 tot : Int
 n : Nat
 Do : Addr
 Dn : Addr
 Dl : Addr
 Du : Addr
 R : Addr
 Dw : Addr
 Dt : Addr
 yo : List Value
 yn : List Value
 vl : List Value
 vd : List Value
 eo : Nat
 en : Nat
 el : Nat
 ed : Nat
 tb : Tok
 Y : Lay
noncomputable abbrev FX.need (f : FX) : Int → List Int := needF f.cs f.tot f.n
noncomputable abbrev FX.left (f : FX) (t : Nat) : List Int := leftI f.need f.n t
structure Com (f : FX) (m : FMap) (c : Nat → Option Value) (rs : Ledger) : Prop where
 c5 : CV c 5 (.ref f.Dl)
 k1 : Has m (Str.ofString "old") (.ref f.Do)
 k2 : Has m (Str.ofString "new") (.ref f.Dn)
 k3 : Has m (Str.ofString "bound") (.int (4 + f.tot) f.tb)
 k4 : Has m (Str.ofString "due") (.ref f.Du)
 k5 : Has m (Str.ofString "sorter") (.ref f.Y.S)
 k6 : Has m (Str.ofString "held") (.bool (!decide (f.left f.n = [])))
 k7 : Has m (Str.ofString "row") (.ref f.Dw)
 k9 : Has m (Str.ofString "told") (.ref f.Dt)
 r2 : (f.Do, listOf f.yo.toArray f.eo) ∈ rs
 r3 : (f.Dn, listOf f.yn.toArray f.en) ∈ rs
 ru : (f.Du, listOf f.vd.toArray f.ed) ∈ rs
 rl : (f.Dl, listOf f.vl.toArray f.el) ∈ rs
 off : ∀ p ∈ rs, p.1 ≠ f.R ∧ p.1 ≠ f.Dw ∧ p.1 ≠ f.Dt
 ne : f.R ≠ f.Dw ∧ f.R ≠ f.Dt ∧ f.Dw ≠ f.Dt
 lv : IntsAre f.vl (f.left f.n)
 due : Lists rs f.vd (dueI f.need f.n f.n)
theorem Com.mv {f : FX} {m m' : FMap} {c c' : Nat → Option Value} {rs : Ledger} (C : Com f m c rs) (h5 : c' 5 = c 5 := by rfl) (h1 : m' (Str.ofString "old") = m (Str.ofString "old") := by rfl) (h2 : m' (Str.ofString "new") = m (Str.ofString "new") := by rfl) (h3 : m' (Str.ofString "bound") = m (Str.ofString "bound") := by rfl)
  (h4 : m' (Str.ofString "due") = m (Str.ofString "due") := by rfl) (h6 : m' (Str.ofString "sorter") = m (Str.ofString "sorter") := by rfl) (h7 : m' (Str.ofString "held") = m (Str.ofString "held") := by rfl) (h8 : m' (Str.ofString "row") = m (Str.ofString "row") := by rfl) (h9 : m' (Str.ofString "told") = m (Str.ofString "told") := by rfl) : Com f m' c' rs :=
 { C with c5 := ⟨h5.trans C.c5.out⟩, k1 := ⟨h1.trans C.k1.out⟩, k2 := ⟨h2.trans C.k2.out⟩, k3 := ⟨h3.trans C.k3.out⟩, k4 := ⟨h4.trans C.k4.out⟩, k5 := ⟨h6.trans C.k5.out⟩, k6 := ⟨h7.trans C.k6.out⟩, k7 := ⟨h8.trans C.k7.out⟩, k9 := ⟨h9.trans C.k9.out⟩ }
theorem Com.more {f : FX} {m : FMap} {c : Nat → Option Value} {rs : Ledger} (C : Com f m c rs) {a : Addr} {o : Obj} (h : a ≠ f.R ∧ a ≠ f.Dw ∧ a ≠ f.Dt) : Com f m c ((a, o) :: rs) :=
 { C with r2 := .tail _ C.r2, r3 := .tail _ C.r3, ru := .tail _ C.ru, rl := .tail _ C.rl, off := List.forall_mem_cons.mpr ⟨h, C.off⟩, due := C.due.mono fun h => .tail _ h }
structure Fix (f : FX) : Prop where
 n3 : 3 ≤ f.n
 n6 : f.n ≤ 6
 t0 : 0 ≤ f.tot
 old : IntsAre f.yo (((List.range f.n).map (oldN f.cs)).map fun (c : Nat) => (c : Int))
 new : IntsAre f.yn (((List.range f.n).map (newN f.cs)).map fun (c : Nat) => (c : Int))
noncomputable def trio (f : FX) (vr : List Value) (er : Nat) (vw : List Value) (ew : Nat) (vt : List Value) (et : Nat) (rs : Ledger) : Ledger := (f.R, listOf vr.toArray er) :: (f.Dw, listOf vw.toArray ew) :: (f.Dt, listOf vt.toArray et) :: rs
structure InS7 (f : FX) (t : Nat) (m : FMap) (nw : Ledger) (c : Nat → Option Value) (rs : Ledger) (np : Int → Int) (rk : List Int) (po : Int) (vr : List Value) (er : Nat) (vw : List Value) (ew : Nat) (vt : List Value) (et : Nat) (va : List Value) (ea : Nat) (Da : Addr) : Prop where
 sl : SL f.w f.L nw f.Y (keysAt f.need f.n) np (succAt f.need f.n) (.ref f.R) po po c (trio f vr er vw ew vt et rs)
 com : Com f m c rs
 k8 : Has m (Str.ofString "ahead") (.ref Da)
 ra : (Da, listOf va.toArray ea) ∈ rs
 rv : IntsAre vr rk
 kh : KH f.need (f.left t) np rk
 mes : (f.left t).length + t ≤ f.n
 row : IntsAre vw ((rowU f.cs f.n (f.left t)).map fun (c : Nat) => (c : Int))
 ah : StrsAre va ([encF (rowU f.cs f.n (f.left t)), hexE (rowU f.cs f.n (f.left t))].map mkS)
 told : Lists rs vt (dueI f.need f.n t)
structure InK (f : FX) (t i : Nat) (rk : List Int) (v0 : List Value) (Dh : Addr) (p0 : Int) (m : FMap) (nw : Ledger) (c : Nat → Option Value) (rs : Ledger) (np : Int → Int) (q : List Int) (vr : List Value) (er : Nat) (vw : List Value) (ew : Nat) (vt : List Value) (et : Nat) (va : List Value) (ea : Nat) (Da : Addr) : Prop where
 sl : SL f.w f.L nw f.Y (keysAt f.need f.n) np (succAt f.need f.n) (.ref f.R) (p0 + rk.length) (p0 + i) c (trio f vr er vw ew vt et rs)
 com : Com f m c rs
 k8 : Has m (Str.ofString "ahead") (.ref Da)
 ra : (Da, listOf va.toArray ea) ∈ rs
 rh : (Dh, tupOf v0) ∈ rs
 rv : IntsAre vr q
 ks : KS f.need (f.left t) (undone (f.left t) rk i) np q
 row : IntsAre vw ((rowU f.cs f.n (undone (f.left t) rk i)).map fun (c : Nat) => (c : Int))
 ah : StrsAre va ([encF (rowU f.cs f.n (undone (f.left t) rk i)), hexE (rowU f.cs f.n (undone (f.left t) rk i))].map mkS)
 told : Lists rs vt (dueI f.need f.n (t + 1))
structure InT (f : FX) (t : Nat) (v0 : List Value) (Dh : Addr) (po fi : Int) (k : Nat) (A B : List Nat) (I : Addr) (it : Obj) (np : Int → Int) (vr : List Value) (er : Nat) (vw : List Value) (ew : Nat) (vt : List Value) (et : Nat) (m : FMap) (nw : Ledger) (c : Nat → Option Value) (rs : Ledger) (va : List Value) (ea : Nat) (Da : Addr) (vb : List Value) (eb : Nat) (Db : Addr) (tk : Tok) : Prop where
 sl : SL f.w f.L nw f.Y (keysAt f.need f.n) np (succAt f.need f.n) (.ref f.R) po fi c ((I, it) :: trio f vr er vw ew vt et rs)
 offI : ∀ p ∈ trio f vr er vw ew vt et rs, p.1 ≠ I
 com : Com f m c rs
 c3 : CV c 3 (.int (k : Nat) tk)
 k8 : Has m (Str.ofString "ahead") (.ref Da)
 k10 : Has m (Str.ofString "behind") (.ref Db)
 ra : (Da, listOf va.toArray ea) ∈ rs
 rb : (Db, listOf vb.toArray eb) ∈ rs
 rh : (Dh, tupOf v0) ∈ rs
 row : IntsAre vw ((A ++ newN f.cs k :: B).map fun (c : Nat) => (c : Int))
 ah : StrsAre va ([encF (A ++ oldN f.cs k :: B), hexE (A ++ oldN f.cs k :: B)].map mkS)
 bh : StrsAre vb ([encF (A ++ newN f.cs k :: B), hexE (A ++ newN f.cs k :: B)].map mkS)
 told : Lists rs vt (dueI f.need f.n (t + 1))
noncomputable def whBody : Stmt → List Stmt
 | .While _ b _ _ => b
 | _ => []
noncomputable def forBody : Stmt → List Stmt
 | .For _ _ b _ _ => b
 | _ => []
noncomputable def headS : List Stmt → Stmt
 | x :: _ => x
 | [] => .Pass ⟨0,0,0,0⟩
noncomputable def whB (k : Nat) : List Stmt := (whBody (headS (lawB 19))).drop k
noncomputable def turnB (k : Nat) : List Stmt := (forBody (headS (whB 2))).drop k
end
section
open PySem PySem.W PyProof.Rows PySem.Calls
variable {w : World} {mean : ExcName → Option Value} {mg mb : Str → Option Value} {dp un : Nat} {gd : Option (List Code)} {cn : Str} {cs : Scope} {a : Addr} {ccd : Value} {cl : List (Str × Addr)} {outer : List Env} {A₀ : Around} {base h₀ : Heap} {L : Addr} {m : Str → Option Value} {news : List (Addr × Obj)} {s : Shared} {Q E : Value → Shared → Prop}
theorem law_S6 {w : World} {mean : ExcName → Option Value} {mg mb : Str → Option Value} {base h₀ : Heap} {L fa w7 : Addr} {s : Shared} {m : FMap} {nw : Ledger} {qk : Flow → Shared → Prop} {cs : List Int} {tot : Int} {n : Nat} {Do Dn : Addr} {yo yn : List Value} {eo en : Nat} {c : Nat → Option Value} {tb : Tok} {rs : Ledger} {Dl Du : Addr} {vl vd : List Value} {el ed : Nat} {Y : Lay} {R : Addr} {vr : List Value} {er : Nat}
  (X0 : (Mine.hd.heap_39 w.params).In h₀) (T0 : Top vw loose0 mean mg mb h₀) (B0 : Below callerA base [] h₀) (hn3 : 3 ≤ n) (hn : n ≤ 6) (hyo : IntsAre yo (((List.range n).map (oldN cs)).map fun (c : Nat) => (c : Int))) (F : Fr h₀ L s.heap m) (N : News h₀ L s.heap nw)
  (P : InS5 w L cs tot n Do Dn yo yn eo en m nw c tb rs Dl Du vl vd el ed Y R vr er)
  (hret : ∀ m nw c rs h' tk' Dw vw' ew Da va ea Dt et rk, Fr h₀ L h' m → News h₀ L h' nw → InS7 ⟨w, L, cs, tot, n, Do, Dn, Dl, Du, R, Dw, Dt, yo, yn, vl, vd, eo, en, el, ed, tb, Y⟩ 0 m nw c rs (npAt (needF cs tot n) n) rk 0 vr er vw' ew [] et va ea Da →
   wpAny (model PySem.Challenge.rw_ny0310_01.row.prog w) (callerA.deeper (lawE L fa w7)) (execs (lawB 19) (lawE L fa w7)) qk NoE { s with heap := h', toks := tk' }) :
  wpAny (model PySem.Challenge.rw_ny0310_01.row.prog w) (callerA.deeper (lawE L fa w7)) (execs (lawB 15) (lawE L fa w7)) qk NoE s := by
 have hret' := hret
 conv at hret' in (lawB 19) => unfold lawB; whnf
 conv in (lawB 15) => unfold lawB; whnf
 unfold lawE at hret' ⊢
 simp only [show lawS = _ from by conv => lhs; whnf] at hret' ⊢
 clear hret
 obtain ⟨sl, off, c5, k1, k2, k3, k4, k5, k6, r2, r3, ru, rl, lv, due, rv⟩ := P
 have hmo : (Do, listOf yo.toArray eo) ∈ nw := sl.mem (.tail _ r2)
 have hol : yo.length = n := by have := hyo.length; simpa using this
 have st3 : Stopper3 := trivial
 first | ((with_reducible refine execs_cons_gen ?_); intro _; (try dsimp only)) | walk1
 repeat' first | (k_unfold; (try dsimp only)) | ((fail_if_success (with_reducible first | refine WG ?_ | refine FG ?_)); (fail_if_success first | (with_reducible show wpAny _ _ (call (Value.type "bytes") _) _ _ _) | (with_reducible show wpAny _ _ (call (Value.ref _) _) _ _ _) | (with_reducible show wpAny _ _ (compareOp _ _ (Value.ref _)) _ _ _) | ((have _ := (by with_reducible assumption : Stopper3)); (with_reducible show wpAny _ _ (execs _ _) _ _ _))); first | ((with_reducible show wpAny _ _ (eval (Expr.Call _ _ _ _) _) _ _ _); k_dflt refine Call_ ?_) | ((with_reducible show wpAny _ _ (eval (Expr.Name _ _) (envOfC _ _ _ _ _)) _ _ _); k_dflt first | refine' nmL (by rfl) (by first | rfl | assumption) (by k_asm) (by first | exact Has.get (by with_reducible assumption) (by exact rfl) | exact rfl) ?_ | refine' nmC (by rfl) (by first | rfl | assumption) (by k_asm) (by rfl) (by k_mem) (by with_reducible assumption) ?_) | walk1 | (dsimp only; walk1))
 refine list_copyK F N (News.isList N hmo) ?_ (by rw [sizeLine_eq, List.size_toArray]; omega)
 intro Dw cw h2 F2 N2 lw
 have hos : ∀ o ∈ (List.range n).map (oldN cs), o < 256 := by
  intro o ho
  refine oEA (List.mem_map.mp ho) fun k _ er1 => ?_
  subst er1
  exact oldN_lt _ _
 have hosl : ((List.range n).map (oldN cs)).length = n := by simp
 generalize hosd : (List.range n).map (oldN cs) = os at hyo hos hosl
 have hos6 : os.length ≤ 6 := by omega
 have hos1 : 1 ≤ os.length := by omega
 have he1 := encF_byte os
 have he2 : (encF os).length ≤ 100 := by
  have := encF_len os
  omega
 have hx1 := hexE_byte hos
 have hx2 : (hexE os).length ≤ 100 := by
  have := hexE_len os
  omega
 have sl2 := sl.cons (o := listOf yo.toArray cw) (fun p hp => Nat.ne_of_lt (lw p hp))
 have hDw : ∀ p ∈ (R, listOf vr.toArray er) :: rs, p.1 ≠ Dw := fun p hp => Nat.ne_of_lt (lw p (sl.mem hp))
 replace N2 : News h₀ L h2 ((Dw, listOf yo.toArray cw) :: nw) := N2
 generalize (Dw, listOf yo.toArray cw) :: nw = nw2 at N2 sl2
 have hmw : (Dw, listOf yo.toArray cw) ∈ nw2 := sl2.mem (.head _)
 have U2 := sl2.uniq
 clear sl F N lw hmo
 dsimp only
 repeat' first | (k_unfold; (try dsimp only)) | ((fail_if_success (with_reducible first | refine WG ?_ | refine FG ?_)); (fail_if_success first | (with_reducible show wpAny _ _ (call (Value.type "bytes") _) _ _ _) | (with_reducible show wpAny _ _ (call (Value.ref _) _) _ _ _) | (with_reducible show wpAny _ _ (compareOp _ _ (Value.ref _)) _ _ _) | ((have _ := (by with_reducible assumption : Stopper3)); (with_reducible show wpAny _ _ (execs _ _) _ _ _))); first | walk1 | (dsimp only; walk1))
 first | ((with_reducible refine execs_cons_gen ?_); intro _; (try dsimp only)) | walk1
 repeat' first | (k_unfold; (try dsimp only)) | ((fail_if_success (with_reducible first | refine WG ?_ | refine FG ?_)); (fail_if_success first | (with_reducible show wpAny _ _ (call (Value.type "bytes") _) _ _ _) | (with_reducible show wpAny _ _ (call (Value.ref _) _) _ _ _) | (with_reducible show wpAny _ _ (compareOp _ _ (Value.ref _)) _ _ _) | ((have _ := (by with_reducible assumption : Stopper3)); (with_reducible show wpAny _ _ (execs _ _) _ _ _))); first | ((with_reducible show wpAny _ _ (eval (Expr.Call _ _ _ _) _) _ _ _); k_dflt refine Call_ ?_) | ((with_reducible show wpAny _ _ (eval (Expr.Name _ _) (envOfC _ _ _ _ _)) _ _ _); k_dflt first | refine' nmL (by rfl) (by first | rfl | assumption) (by k_asm) (by first | exact Has.get (by with_reducible assumption) (by exact rfl) | exact rfl) ?_ | refine' nmC (by rfl) (by first | rfl | assumption) (by k_asm) (by rfl) (by k_mem) (by with_reducible assumption) ?_) | walk1 | (dsimp only; walk1))
 repeat ((first | ((with_reducible show wpAny _ _ (call (Value.ref 35) _ _) _ _ _); (k_dflt refine' law_lev (by k_asm) (by k_asm) (by k_asm) (by k_asm) (by k_asm) (by with_reducible assumption) (by with_reducible assumption) ?_); intro _ _ _ _ _; (try dsimp only)) | ((with_reducible show wpAny _ _ (call (Value.ref 232) _ _) _ _ _); (k_dflt refine' law_price (by k_asm) (by k_asm) (by k_asm) (by k_asm) (by k_asm) (by with_reducible assumption) ?_); intro _ _ _ _ _; (try dsimp only)) | ((with_reducible show wpAny _ _ (subscriptTail _ _ (Value.ref _) (Value.int _ _)) _ _ _); (k_dflt refine' subK (by k_asm) (by k_mem) (by decide) (by decide) (by rfl) ?_); (try dsimp only)) | ((with_reducible show wpAny _ _ (subscriptTail _ _ (Value.ref _) (Value.int _ _)) _ _ _); (k_dflt refine' subO (by k_asm) (by k_mem) (by with_reducible assumption) (by with_reducible assumption) ?_ (by with_reducible assumption)); intro _; (try dsimp only)) | ((with_reducible show wpAny _ _ (call (Value.type "bytes") _ _) _ _ _); (k_dflt refine' law_bytes (by k_asm) (by k_asm) (by k_mem) (by with_reducible assumption) (by with_reducible assumption) (by with_reducible assumption) ?_); intro _ _ _ _ _; (try dsimp only)) | ((with_reducible show wpAny _ _ (call (Value.ref 74) _ _) _ _ _); (k_dflt refine' law_b64 (by k_asm) (by k_asm) (by k_asm) (by k_asm) (by k_asm) (by with_reducible assumption) (by with_reducible assumption) (by with_reducible assumption) ?_); intro _ _ _ _ _; (try dsimp only)) | ((with_reducible show wpAny _ _ (call (Value.ref 81) _ _) _ _ _); (k_dflt refine' law_b16 (by k_asm) (by k_asm) (by k_asm) (by k_asm) (by k_asm) (by with_reducible assumption) (by with_reducible assumption) (by with_reducible assumption) ?_); intro _ _ _ _ _; (try dsimp only)) | ((with_reducible show wpAny _ _ (call (Value.ref 218) _ _) _ _ _); (k_dflt refine' law_text (by k_asm) (by k_asm) (by k_asm) (by k_asm) (by k_asm) (by with_reducible assumption) (by with_reducible assumption) ?_); intro _ _ _ _ _; (try dsimp only)) | ((with_reducible show wpAny _ _ (call (Value.ref 208) _ _) _ _ _); (k_dflt refine' law_sixes (by k_asm) (by k_asm) (by k_asm) (by k_asm) (by k_asm) (by k_mem) (by with_reducible assumption) (by with_reducible assumption) (by with_reducible assumption) ?_); intro _ _ _ _ _; (try dsimp only)) | ((with_reducible show wpAny _ _ (call (Value.ref 213) _ _) _ _ _); (k_dflt refine' law_halves (by k_asm) (by k_asm) (by k_asm) (by k_asm) (by k_asm) (by with_reducible assumption) (by k_mem) (by with_reducible assumption) (by with_reducible assumption) (by with_reducible assumption) ?_); intro _ _ _ _ _; (try dsimp only))); (repeat' first | (k_unfold; (try dsimp only)) | ((fail_if_success (with_reducible first | refine WG ?_ | refine FG ?_)); (fail_if_success first | (with_reducible show wpAny _ _ (call (Value.type "bytes") _) _ _ _) | (with_reducible show wpAny _ _ (call (Value.ref _) _) _ _ _) | (with_reducible show wpAny _ _ (compareOp _ _ (Value.ref _)) _ _ _) | ((have _ := (by with_reducible assumption : Stopper3)); (with_reducible show wpAny _ _ (execs _ _) _ _ _))); first | ((with_reducible show wpAny _ _ (eval (Expr.Call _ _ _ _) _) _ _ _); k_dflt refine Call_ ?_) | ((with_reducible show wpAny _ _ (newList _) _ _ _); k_dflt refine' newList_SL (by with_reducible assumption) (by k_asm) (by k_asm) (by first | decide | (simp only [List.length_cons, List.length_nil]; omega)) ?_; intro _ _ _ _ _ _ _; (try dsimp only)) | ((with_reducible show wpAny _ _ (eval (Expr.Name _ _) (envOfC _ _ _ _ _)) _ _ _); k_dflt first | refine' nmL (by rfl) (by first | rfl | assumption) (by k_asm) (by first | exact Has.get (by with_reducible assumption) (by exact rfl) | exact rfl) ?_ | refine' nmC (by rfl) (by first | rfl | assumption) (by k_asm) (by rfl) (by k_mem) (by with_reducible assumption) ?_) | walk1 | (dsimp only; walk1))))
 clear sl2 U2
 (with_reducible rename Fr _ _ _ _ => kF); (with_reducible rename News _ _ _ _ => kN); (with_reducible rename SL _ _ _ _ _ _ _ _ _ _ _ _ => sl3)
 (with_reducible rename ∀ p ∈ (Dw, _) :: _, _ => hDa)
 rename_i Da _ nw3 _
 have U3 := sl3.uniq
 have hma := sl3.mem (.head _)
 replace hmw := sl3.mem (.tail _ (.head _))
 first | ((with_reducible refine execs_cons_gen ?_); intro _; (try dsimp only)) | walk1
 repeat' first | (k_unfold; (try dsimp only)) | ((fail_if_success (with_reducible first | refine WG ?_ | refine FG ?_)); (fail_if_success first | (with_reducible show wpAny _ _ (call (Value.type "bytes") _) _ _ _) | (with_reducible show wpAny _ _ (call (Value.ref _) _) _ _ _) | (with_reducible show wpAny _ _ (compareOp _ _ (Value.ref _)) _ _ _) | ((have _ := (by with_reducible assumption : Stopper3)); (with_reducible show wpAny _ _ (execs _ _) _ _ _))); first | ((with_reducible show wpAny _ _ (eval (Expr.Call _ _ _ _) _) _ _ _); k_dflt refine Call_ ?_) | ((with_reducible show wpAny _ _ (eval (Expr.Name _ _) (envOfC _ _ _ _ _)) _ _ _); k_dflt first | refine' nmL (by rfl) (by first | rfl | assumption) (by k_asm) (by first | exact Has.get (by with_reducible assumption) (by exact rfl) | exact rfl) ?_ | refine' nmC (by rfl) (by first | rfl | assumption) (by k_asm) (by rfl) (by k_mem) (by with_reducible assumption) ?_) | walk1 | (dsimp only; walk1))
 repeat ((first | ((with_reducible show wpAny _ _ (call (Value.ref 35) _ _) _ _ _); (k_dflt refine' law_lev (by k_asm) (by k_asm) (by k_asm) (by k_asm) (by k_asm) (by with_reducible assumption) (by with_reducible assumption) ?_); intro _ _ _ _ _; (try dsimp only)) | ((with_reducible show wpAny _ _ (call (Value.ref 232) _ _) _ _ _); (k_dflt refine' law_price (by k_asm) (by k_asm) (by k_asm) (by k_asm) (by k_asm) (by with_reducible assumption) ?_); intro _ _ _ _ _; (try dsimp only)) | ((with_reducible show wpAny _ _ (subscriptTail _ _ (Value.ref _) (Value.int _ _)) _ _ _); (k_dflt refine' subK (by k_asm) (by k_mem) (by decide) (by decide) (by rfl) ?_); (try dsimp only)) | ((with_reducible show wpAny _ _ (subscriptTail _ _ (Value.ref _) (Value.int _ _)) _ _ _); (k_dflt refine' subO (by k_asm) (by k_mem) (by with_reducible assumption) (by with_reducible assumption) ?_ (by with_reducible assumption)); intro _; (try dsimp only)) | ((with_reducible show wpAny _ _ (call (Value.type "bytes") _ _) _ _ _); (k_dflt refine' law_bytes (by k_asm) (by k_asm) (by k_mem) (by with_reducible assumption) (by with_reducible assumption) (by with_reducible assumption) ?_); intro _ _ _ _ _; (try dsimp only)) | ((with_reducible show wpAny _ _ (call (Value.ref 74) _ _) _ _ _); (k_dflt refine' law_b64 (by k_asm) (by k_asm) (by k_asm) (by k_asm) (by k_asm) (by with_reducible assumption) (by with_reducible assumption) (by with_reducible assumption) ?_); intro _ _ _ _ _; (try dsimp only)) | ((with_reducible show wpAny _ _ (call (Value.ref 81) _ _) _ _ _); (k_dflt refine' law_b16 (by k_asm) (by k_asm) (by k_asm) (by k_asm) (by k_asm) (by with_reducible assumption) (by with_reducible assumption) (by with_reducible assumption) ?_); intro _ _ _ _ _; (try dsimp only)) | ((with_reducible show wpAny _ _ (call (Value.ref 218) _ _) _ _ _); (k_dflt refine' law_text (by k_asm) (by k_asm) (by k_asm) (by k_asm) (by k_asm) (by with_reducible assumption) (by with_reducible assumption) ?_); intro _ _ _ _ _; (try dsimp only)) | ((with_reducible show wpAny _ _ (call (Value.ref 208) _ _) _ _ _); (k_dflt refine' law_sixes (by k_asm) (by k_asm) (by k_asm) (by k_asm) (by k_asm) (by k_mem) (by with_reducible assumption) (by with_reducible assumption) (by with_reducible assumption) ?_); intro _ _ _ _ _; (try dsimp only)) | ((with_reducible show wpAny _ _ (call (Value.ref 213) _ _) _ _ _); (k_dflt refine' law_halves (by k_asm) (by k_asm) (by k_asm) (by k_asm) (by k_asm) (by with_reducible assumption) (by k_mem) (by with_reducible assumption) (by with_reducible assumption) (by with_reducible assumption) ?_); intro _ _ _ _ _; (try dsimp only))); (repeat' first | (k_unfold; (try dsimp only)) | ((fail_if_success (with_reducible first | refine WG ?_ | refine FG ?_)); (fail_if_success first | (with_reducible show wpAny _ _ (call (Value.type "bytes") _) _ _ _) | (with_reducible show wpAny _ _ (call (Value.ref _) _) _ _ _) | (with_reducible show wpAny _ _ (compareOp _ _ (Value.ref _)) _ _ _) | ((have _ := (by with_reducible assumption : Stopper3)); (with_reducible show wpAny _ _ (execs _ _) _ _ _))); first | ((with_reducible show wpAny _ _ (eval (Expr.Call _ _ _ _) _) _ _ _); k_dflt refine Call_ ?_) | ((with_reducible show wpAny _ _ (newList _) _ _ _); k_dflt refine' newList_SL (by with_reducible assumption) (by k_asm) (by k_asm) (by first | decide | (simp only [List.length_cons, List.length_nil]; omega)) ?_; intro _ _ _ _ _ _ _; (try dsimp only)) | ((with_reducible show wpAny _ _ (eval (Expr.Name _ _) (envOfC _ _ _ _ _)) _ _ _); k_dflt first | refine' nmL (by rfl) (by first | rfl | assumption) (by k_asm) (by first | exact Has.get (by with_reducible assumption) (by exact rfl) | exact rfl) ?_ | refine' nmC (by rfl) (by first | rfl | assumption) (by k_asm) (by rfl) (by k_mem) (by with_reducible assumption) ?_) | walk1 | (dsimp only; walk1))))
 (with_reducible rename News _ _ _ _ => kN2); (with_reducible rename SL _ _ _ _ _ _ _ _ _ _ _ _ => sl4)
 refine ne_strsK kN2 (sl4.mem (.tail _ (.head _))) strs2 (sl4.mem (.head _)) strs2 (two_byte he1 hx1) (two_byte (sixF_byte (by omega) hos6 hos) hx1) lawUnits ?_
 rw [decide_eq_true (by rw [encF_sixF os (by omega) hos6 hos])]
 have sl5 := sl4.sub (fun p hp => .tail _ hp)
 clear sl3 sl4 U3 hma hmw
 repeat' first | (k_unfold; (try dsimp only)) | ((fail_if_success (with_reducible first | refine WG ?_ | refine FG ?_)); (fail_if_success first | (with_reducible show wpAny _ _ (call (Value.type "bytes") _) _ _ _) | (with_reducible show wpAny _ _ (call (Value.ref _) _) _ _ _) | (with_reducible show wpAny _ _ (compareOp _ _ (Value.ref _)) _ _ _) | ((have _ := (by with_reducible assumption : Stopper3)); (with_reducible show wpAny _ _ (execs _ _) _ _ _))); first | walk1 | (dsimp only; walk1))
 first | ((with_reducible refine execs_nil_gen ?_); intro _; (try dsimp only)) | walk1
 repeat' first | (k_unfold; (try dsimp only)) | ((fail_if_success (with_reducible first | refine WG ?_ | refine FG ?_)); (fail_if_success first | (with_reducible show wpAny _ _ (call (Value.type "bytes") _) _ _ _) | (with_reducible show wpAny _ _ (call (Value.ref _) _) _ _ _) | (with_reducible show wpAny _ _ (compareOp _ _ (Value.ref _)) _ _ _) | ((have _ := (by with_reducible assumption : Stopper3)); (with_reducible show wpAny _ _ (execs _ _) _ _ _))); first | walk1 | (dsimp only; walk1))
 first | ((with_reducible refine execs_cons_gen ?_); intro _; (try dsimp only)) | walk1
 repeat' first | (k_unfold; (try dsimp only)) | ((fail_if_success (with_reducible first | refine WG ?_ | refine FG ?_)); (fail_if_success first | (with_reducible show wpAny _ _ (call (Value.type "bytes") _) _ _ _) | (with_reducible show wpAny _ _ (call (Value.ref _) _) _ _ _) | (with_reducible show wpAny _ _ (compareOp _ _ (Value.ref _)) _ _ _) | ((have _ := (by with_reducible assumption : Stopper3)); (with_reducible show wpAny _ _ (execs _ _) _ _ _))); first | ((with_reducible show wpAny _ _ (newList _) _ _ _); k_dflt refine' newList_SL (by with_reducible assumption) (by k_asm) (by k_asm) (by first | decide | (simp only [List.length_cons, List.length_nil]; omega)) ?_; intro _ _ _ _ _ _ _; (try dsimp only)) | walk1 | (dsimp only; walk1))
 (with_reducible rename Fr _ _ _ _ => kF3); (with_reducible rename News _ _ _ _ => kN3); (with_reducible rename SL _ _ _ _ _ _ _ _ _ _ _ _ => sl6)
 (with_reducible rename ∀ p ∈ (Da, _) :: _, _ => hDt)
 rename_i Dt _ nw6 _
 have hRw : R ≠ Dw := hDw _ (.head _)
 have hRt : R ≠ Dt := hDt _ (.tail _ (.tail _ (.head _)))
 have hwt : Dw ≠ Dt := hDt _ (.tail _ (.head _))
 have hm9 := sl6.sub (rest' := (R, listOf vr.toArray er) :: (Dw, listOf yo.toArray cw) :: (Dt, listOf (List.toArray []) 0) :: (Da, _) :: rs) (by
  intro p hp
  rcases List.mem_cons.mp hp with rfl | hp
  ·exact .tail _ (.tail _ (.tail _ (.head _)))
  ·rcases List.mem_cons.mp hp with rfl | hp
   ·exact .tail _ (.tail _ (.head _))
   ·rcases List.mem_cons.mp hp with rfl | hp
    ·exact .head _
    ·rcases List.mem_cons.mp hp with rfl | hp
     ·exact .tail _ (.head _)
     ·exact .tail _ (.tail _ (.tail _ (.tail _ hp))))
 have hnd : (keysAt (needF cs tot n) n).Nodup := by
  refine oEA (hm9.ex) fun R2 I _ => ?_
  exact I.nodup
 have hrow : rowU cs n (leftI (needF cs tot n) n 0) = os := (rowU_all cs n).trans hosd
 refine hret' _ nw6 c _ _ _ Dw yo cw Da _ 0 Dt 0 _ kF3 kN3 ⟨hm9, ⟨c5, ⟨k1.out⟩, ⟨k2.out⟩, ⟨k3.out⟩, ⟨k4.out⟩, ⟨k5.out⟩, ⟨k6.out⟩, ⟨rfl⟩, ⟨rfl⟩, .tail _ r2, .tail _ r3, .tail _ ru, .tail _ rl, ?_, ⟨hRw, hRt, hwt⟩, lv, due.mono fun h => .tail _ h⟩, ⟨rfl⟩, .head _, rv, KH.init hnd (fun k => mem_keysAt (needF_rng cs tot n)) (needF_rng cs tot n), ?_, ?_, ?_, .nil⟩
 ·refine List.forall_mem_cons.mpr ⟨⟨Ne.symm (hDa _ (.tail _ (.head _))), Ne.symm (hDa _ (.head _)), hDt _ (.head _)⟩, fun p hp => ⟨off p hp, hDw _ (.tail _ hp), hDt _ (.tail _ (.tail _ (.tail _ hp)))⟩⟩
 ·show (rng n).length + 0 ≤ n
  unfold rng
  simp
 ·show IntsAre yo ((rowU cs n (leftI (needF cs tot n) n 0)).map fun (c : Nat) => (c : Int))
  rw [hrow]; exact hyo
 ·show StrsAre _ ([encF (rowU cs n (leftI (needF cs tot n) n 0)), hexE (rowU cs n (leftI (needF cs tot n) n 0))].map mkS)
  rw [hrow]; exact strs2
end
section
open PySem PySem.W PyProof.Rows PySem.Calls
variable {w : World} {mean : ExcName → Option Value} {mg mb : Str → Option Value} {dp un : Nat} {gd : Option (List Code)} {cn : Str} {cs : Scope} {a : Addr} {ccd : Value} {cl : List (Str × Addr)} {outer : List Env} {A₀ : Around} {base h₀ : Heap} {L : Addr} {m : Str → Option Value} {news : List (Addr × Obj)} {s : Shared} {Q E : Value → Shared → Prop}
theorem set_mid {A B : List Nat} {o x : Nat} : ((A ++ o :: B).map fun (c : Nat) => (c : Int)).set A.length (x : Int) = (A ++ x :: B).map fun (c : Nat) => (c : Int) := by
 rw [List.map_append, List.map_append, List.set_append_right _ _ (by rw [List.length_map]; exact Nat.le_refl _), List.length_map, Nat.sub_self]
 rfl
theorem law_T1 {f : FX} {t : Nat} {mean : ExcName → Option Value} {mg mb : Str → Option Value} {base h₀ : Heap} {fa w7 : Addr} {s : Shared} {m : FMap} {nw : Ledger} {qk : Flow → Shared → Prop} {v0 : List Value} {Dh : Addr} {po fi : Int} {k : Nat} {A B : List Nat} {I : Addr} {it : Obj} {np : Int → Int} {vr : List Value} {er : Nat} {wv : List Value} {ew : Nat} {vt : List Value} {et : Nat} {c : Nat → Option Value} {rs : Ledger} {va : List Value} {ea : Nat} {Da : Addr} {tk : Tok}
  (X0 : (Mine.hd.heap_39 f.w.params).In h₀) (T0 : Top vw loose0 mean mg mb h₀) (B0 : Below callerA base [] h₀) (FF : Fix f) (hk : k < f.n) (hA : A.length = k) (hAB : A.length + (B.length + 1) = f.n) (hA8 : ∀ o ∈ A, o < 256) (hB8 : ∀ o ∈ B, o < 256) (F : Fr h₀ f.L s.heap m) (N : News h₀ f.L s.heap nw)
  (sl : SL f.w f.L nw f.Y (keysAt f.need f.n) np (succAt f.need f.n) (.ref f.R) po fi c ((I, it) :: trio f vr er wv ew vt et rs)) (offI : ∀ p ∈ trio f vr er wv ew vt et rs, p.1 ≠ I) (com : Com f m c rs) (c3 : CV c 3 (.int (k : Nat) tk)) (k8 : Has m (Str.ofString "ahead") (.ref Da)) (ra : (Da, listOf va.toArray ea) ∈ rs) (rh : (Dh, tupOf v0) ∈ rs)
  (row : IntsAre wv ((A ++ oldN f.cs k :: B).map fun (c : Nat) => (c : Int))) (ah : StrsAre va ([encF (A ++ oldN f.cs k :: B), hexE (A ++ oldN f.cs k :: B)].map mkS)) (told : Lists rs vt (dueI f.need f.n (t + 1)))
  (hret : ∀ m nw rs h' tk' wv vb eb Db, Fr h₀ f.L h' m → News h₀ f.L h' nw → InT f t v0 Dh po fi k A B I it np vr er wv ew vt et m nw c rs va ea Da vb eb Db tk →
   wpAny (model PySem.Challenge.rw_ny0310_01.row.prog f.w) (callerA.deeper (lawE f.L fa w7)) (execs (turnB 3) (lawE f.L fa w7)) qk NoE { s with heap := h', toks := tk' }) :
  wpAny (model PySem.Challenge.rw_ny0310_01.row.prog f.w) (callerA.deeper (lawE f.L fa w7)) (execs (turnB 0) (lawE f.L fa w7)) qk NoE s := by
 have hret' := hret
 conv at hret' in (turnB 3) => unfold turnB; whnf
 conv in (turnB 0) => unfold turnB; whnf
 unfold lawE at hret' ⊢
 simp only [show lawS = _ from by conv => lhs; whnf] at hret' ⊢
 clear hret
 have k1 := com.k1
 have k2 := com.k2
 have k7 := com.k7
 have hmn := sl.mem (.tail _ (.tail _ (.tail _ (.tail _ com.r3))))
 have hmw := sl.mem (.tail _ (.tail _ (.head _)))
 have hn6 := FF.n6
 have hn3 := FF.n3
 have hyn := FF.new
 have ho8 := oldN_lt f.cs k
 have hn8 := newN_lt f.cs k
 have st3 : Stopper3 := trivial
 first | ((with_reducible refine execs_cons_gen ?_); intro _; (try dsimp only)) | walk1
 repeat' first | (k_unfold; (try dsimp only)) | ((fail_if_success (with_reducible first | refine WG ?_ | refine FG ?_)); (fail_if_success first | (with_reducible show wpAny _ _ (subscriptTail _ _ (Value.ref _) (Value.int _ _)) _ _ _) | (with_reducible show wpAny _ _ (call (Value.type "bytes") _) _ _ _) | (with_reducible show wpAny _ _ (call (Value.ref _) _) _ _ _) | (with_reducible show wpAny _ _ (compareOp _ _ (Value.ref _)) _ _ _) | ((have _ := (by with_reducible assumption : Stopper3)); (with_reducible show wpAny _ _ (execs _ _) _ _ _))); first | ((with_reducible show wpAny _ _ (eval (Expr.Name _ _) (envOfC _ _ _ _ _)) _ _ _); k_dflt refine' rdS (by rfl) (by rfl) (by rfl) (by with_reducible assumption) (by k_asm) (by rfl) (by first | exact rfl | exact CV.get (by with_reducible assumption) (by exact rfl)) ?_) | ((with_reducible show wpAny _ _ (eval (Expr.Name _ _) (envOfC _ _ _ _ _)) _ _ _); k_dflt first | refine' nmL (by rfl) (by first | rfl | assumption) (by k_asm) (by first | exact Has.get (by with_reducible assumption) (by exact rfl) | exact rfl) ?_ | refine' nmC (by rfl) (by first | rfl | assumption) (by k_asm) (by rfl) (by k_mem) (by with_reducible assumption) ?_) | walk1 | (dsimp only; walk1))
 repeat ((first | ((with_reducible show wpAny _ _ (call (Value.ref 35) _ _) _ _ _); (k_dflt refine' law_lev (by k_asm) (by k_asm) (by k_asm) (by k_asm) (by k_asm) (by with_reducible assumption) (by with_reducible assumption) ?_); intro _ _ _ _ _; (try dsimp only)) | ((with_reducible show wpAny _ _ (call (Value.ref 232) _ _) _ _ _); (k_dflt refine' law_price (by k_asm) (by k_asm) (by k_asm) (by k_asm) (by k_asm) (by with_reducible assumption) ?_); intro _ _ _ _ _; (try dsimp only)) | ((with_reducible show wpAny _ _ (subscriptTail _ _ (Value.ref _) (Value.int _ _)) _ _ _); (k_dflt refine' subK (by k_asm) (by k_mem) (by decide) (by decide) (by rfl) ?_); (try dsimp only)) | ((with_reducible show wpAny _ _ (subscriptTail _ _ (Value.ref _) (Value.int _ _)) _ _ _); (k_dflt refine' subO (by k_asm) (by k_mem) (by with_reducible assumption) (by with_reducible assumption) ?_ (by with_reducible assumption)); intro _; (try dsimp only)) | ((with_reducible show wpAny _ _ (call (Value.type "bytes") _ _) _ _ _); (k_dflt refine' law_bytes (by k_asm) (by k_asm) (by k_mem) (by with_reducible assumption) (by with_reducible assumption) (by with_reducible assumption) ?_); intro _ _ _ _ _; (try dsimp only)) | ((with_reducible show wpAny _ _ (call (Value.ref 74) _ _) _ _ _); (k_dflt refine' law_b64 (by k_asm) (by k_asm) (by k_asm) (by k_asm) (by k_asm) (by with_reducible assumption) (by with_reducible assumption) (by with_reducible assumption) ?_); intro _ _ _ _ _; (try dsimp only)) | ((with_reducible show wpAny _ _ (call (Value.ref 81) _ _) _ _ _); (k_dflt refine' law_b16 (by k_asm) (by k_asm) (by k_asm) (by k_asm) (by k_asm) (by with_reducible assumption) (by with_reducible assumption) (by with_reducible assumption) ?_); intro _ _ _ _ _; (try dsimp only)) | ((with_reducible show wpAny _ _ (call (Value.ref 218) _ _) _ _ _); (k_dflt refine' law_text (by k_asm) (by k_asm) (by k_asm) (by k_asm) (by k_asm) (by with_reducible assumption) (by with_reducible assumption) ?_); intro _ _ _ _ _; (try dsimp only)) | ((with_reducible show wpAny _ _ (call (Value.ref 208) _ _) _ _ _); (k_dflt refine' law_sixes (by k_asm) (by k_asm) (by k_asm) (by k_asm) (by k_asm) (by k_mem) (by with_reducible assumption) (by with_reducible assumption) (by with_reducible assumption) ?_); intro _ _ _ _ _; (try dsimp only)) | ((with_reducible show wpAny _ _ (call (Value.ref 213) _ _) _ _ _); (k_dflt refine' law_halves (by k_asm) (by k_asm) (by k_asm) (by k_asm) (by k_asm) (by with_reducible assumption) (by k_mem) (by with_reducible assumption) (by with_reducible assumption) (by with_reducible assumption) ?_); intro _ _ _ _ _; (try dsimp only))); (repeat' first | (k_unfold; (try dsimp only)) | ((fail_if_success (with_reducible first | refine WG ?_ | refine FG ?_)); (fail_if_success first | (with_reducible show wpAny _ _ (subscriptTail _ _ (Value.ref _) (Value.int _ _)) _ _ _) | (with_reducible show wpAny _ _ (call (Value.type "bytes") _) _ _ _) | (with_reducible show wpAny _ _ (call (Value.ref _) _) _ _ _) | (with_reducible show wpAny _ _ (compareOp _ _ (Value.ref _)) _ _ _) | ((have _ := (by with_reducible assumption : Stopper3)); (with_reducible show wpAny _ _ (execs _ _) _ _ _))); first | ((with_reducible show wpAny _ _ (eval (Expr.Name _ _) (envOfC _ _ _ _ _)) _ _ _); k_dflt refine' rdS (by rfl) (by rfl) (by rfl) (by with_reducible assumption) (by k_asm) (by rfl) (by first | exact rfl | exact CV.get (by with_reducible assumption) (by exact rfl)) ?_) | ((with_reducible show wpAny _ _ (eval (Expr.Name _ _) (envOfC _ _ _ _ _)) _ _ _); k_dflt first | refine' nmL (by rfl) (by first | rfl | assumption) (by k_asm) (by first | exact Has.get (by with_reducible assumption) (by exact rfl) | exact rfl) ?_ | refine' nmC (by rfl) (by first | rfl | assumption) (by k_asm) (by rfl) (by k_mem) (by with_reducible assumption) ?_) | walk1 | (dsimp only; walk1))))
 have hlen : ((A ++ oldN f.cs k :: B).map fun (c : Nat) => (c : Int)).length = f.n := by rw [List.length_map, List.length_append, List.length_cons, hAB]
 refine ksa_set F N (upd_uniq sl.uniq hmw) row (by omega) (by rw [hlen]; omega) (by omega) ?_
 intro h3 F3 N3 hI3 hl3 _
 generalize wv.set _ _ = w3 at hI3 N3
 have sl3 := sl.set (o' := listOf w3.toArray ew) (.tail _ (.tail _ (.head _)))
 have hWI : f.Dw ≠ I := offI _ (.tail _ (.head _))
 unfold trio at sl3
 rw [setL_cons, if_neg (Ne.symm hWI), setL_cons, if_neg com.ne.1, setL_cons, if_pos rfl, setL_cons, if_neg (Ne.symm com.ne.2.2), setL_off fun p hp => (com.off p hp).2.1] at sl3
 rw [Int.toNat_natCast] at hI3
 have hk' : k = A.length := hA.symm
 have e3 : ((A ++ oldN f.cs k :: B).map fun (c : Nat) => (c : Int)).set k (newN f.cs k : Nat) = (A ++ newN f.cs k :: B).map fun (c : Nat) => (c : Int) := by
  conv => lhs; arg 2; rw [hk']
  exact set_mid
 rw [e3] at hI3
 have hos : ∀ o ∈ A ++ newN f.cs k :: B, o < 256 := row_byte hA8 hB8 hn8
 have hosl : (A ++ newN f.cs k :: B).length = f.n := by rw [List.length_append, List.length_cons, hAB]
 generalize hosd : A ++ newN f.cs k :: B = os at hI3 hos hosl
 have hos6 : os.length ≤ 6 := by omega
 have hos1 : 1 ≤ os.length := by omega
 have he1 := encF_byte os
 have he2 : (encF os).length ≤ 100 := by
  have := encF_len os
  omega
 have hx1 := hexE_byte hos
 have hx2 : (hexE os).length ≤ 100 := by
  have := hexE_len os
  omega
 generalize setL nw f.Dw (listOf w3.toArray ew) = nw3 at N3 sl3
 have hmw3 := sl3.mem (.tail _ (.tail _ (.head _)))
 have U3 := sl3.uniq
 clear sl hmn hmw row e3
 dsimp only
 repeat' first | (k_unfold; (try dsimp only)) | ((fail_if_success (with_reducible first | refine WG ?_ | refine FG ?_)); (fail_if_success first | (with_reducible show wpAny _ _ (subscriptTail _ _ (Value.ref _) (Value.int _ _)) _ _ _) | (with_reducible show wpAny _ _ (call (Value.type "bytes") _) _ _ _) | (with_reducible show wpAny _ _ (call (Value.ref _) _) _ _ _) | (with_reducible show wpAny _ _ (compareOp _ _ (Value.ref _)) _ _ _) | ((have _ := (by with_reducible assumption : Stopper3)); (with_reducible show wpAny _ _ (execs _ _) _ _ _))); first | walk1 | (dsimp only; walk1))
 first | ((with_reducible refine execs_cons_gen ?_); intro _; (try dsimp only)) | walk1
 repeat' first | (k_unfold; (try dsimp only)) | ((fail_if_success (with_reducible first | refine WG ?_ | refine FG ?_)); (fail_if_success first | (with_reducible show wpAny _ _ (subscriptTail _ _ (Value.ref _) (Value.int _ _)) _ _ _) | (with_reducible show wpAny _ _ (call (Value.type "bytes") _) _ _ _) | (with_reducible show wpAny _ _ (call (Value.ref _) _) _ _ _) | (with_reducible show wpAny _ _ (compareOp _ _ (Value.ref _)) _ _ _) | ((have _ := (by with_reducible assumption : Stopper3)); (with_reducible show wpAny _ _ (execs _ _) _ _ _))); first | ((with_reducible show wpAny _ _ (eval (Expr.Call _ _ _ _) _) _ _ _); k_dflt refine Call_ ?_) | ((with_reducible show wpAny _ _ (eval (Expr.Name _ _) (envOfC _ _ _ _ _)) _ _ _); k_dflt first | refine' nmL (by rfl) (by first | rfl | assumption) (by k_asm) (by first | exact Has.get (by with_reducible assumption) (by exact rfl) | exact rfl) ?_ | refine' nmC (by rfl) (by first | rfl | assumption) (by k_asm) (by rfl) (by k_mem) (by with_reducible assumption) ?_) | walk1 | (dsimp only; walk1))
 repeat ((first | ((with_reducible show wpAny _ _ (call (Value.ref 35) _ _) _ _ _); (k_dflt refine' law_lev (by k_asm) (by k_asm) (by k_asm) (by k_asm) (by k_asm) (by with_reducible assumption) (by with_reducible assumption) ?_); intro _ _ _ _ _; (try dsimp only)) | ((with_reducible show wpAny _ _ (call (Value.ref 232) _ _) _ _ _); (k_dflt refine' law_price (by k_asm) (by k_asm) (by k_asm) (by k_asm) (by k_asm) (by with_reducible assumption) ?_); intro _ _ _ _ _; (try dsimp only)) | ((with_reducible show wpAny _ _ (subscriptTail _ _ (Value.ref _) (Value.int _ _)) _ _ _); (k_dflt refine' subK (by k_asm) (by k_mem) (by decide) (by decide) (by rfl) ?_); (try dsimp only)) | ((with_reducible show wpAny _ _ (subscriptTail _ _ (Value.ref _) (Value.int _ _)) _ _ _); (k_dflt refine' subO (by k_asm) (by k_mem) (by with_reducible assumption) (by with_reducible assumption) ?_ (by with_reducible assumption)); intro _; (try dsimp only)) | ((with_reducible show wpAny _ _ (call (Value.type "bytes") _ _) _ _ _); (k_dflt refine' law_bytes (by k_asm) (by k_asm) (by k_mem) (by with_reducible assumption) (by with_reducible assumption) (by with_reducible assumption) ?_); intro _ _ _ _ _; (try dsimp only)) | ((with_reducible show wpAny _ _ (call (Value.ref 74) _ _) _ _ _); (k_dflt refine' law_b64 (by k_asm) (by k_asm) (by k_asm) (by k_asm) (by k_asm) (by with_reducible assumption) (by with_reducible assumption) (by with_reducible assumption) ?_); intro _ _ _ _ _; (try dsimp only)) | ((with_reducible show wpAny _ _ (call (Value.ref 81) _ _) _ _ _); (k_dflt refine' law_b16 (by k_asm) (by k_asm) (by k_asm) (by k_asm) (by k_asm) (by with_reducible assumption) (by with_reducible assumption) (by with_reducible assumption) ?_); intro _ _ _ _ _; (try dsimp only)) | ((with_reducible show wpAny _ _ (call (Value.ref 218) _ _) _ _ _); (k_dflt refine' law_text (by k_asm) (by k_asm) (by k_asm) (by k_asm) (by k_asm) (by with_reducible assumption) (by with_reducible assumption) ?_); intro _ _ _ _ _; (try dsimp only)) | ((with_reducible show wpAny _ _ (call (Value.ref 208) _ _) _ _ _); (k_dflt refine' law_sixes (by k_asm) (by k_asm) (by k_asm) (by k_asm) (by k_asm) (by k_mem) (by with_reducible assumption) (by with_reducible assumption) (by with_reducible assumption) ?_); intro _ _ _ _ _; (try dsimp only)) | ((with_reducible show wpAny _ _ (call (Value.ref 213) _ _) _ _ _); (k_dflt refine' law_halves (by k_asm) (by k_asm) (by k_asm) (by k_asm) (by k_asm) (by with_reducible assumption) (by k_mem) (by with_reducible assumption) (by with_reducible assumption) (by with_reducible assumption) ?_); intro _ _ _ _ _; (try dsimp only))); (repeat' first | (k_unfold; (try dsimp only)) | ((fail_if_success (with_reducible first | refine WG ?_ | refine FG ?_)); (fail_if_success first | (with_reducible show wpAny _ _ (subscriptTail _ _ (Value.ref _) (Value.int _ _)) _ _ _) | (with_reducible show wpAny _ _ (call (Value.type "bytes") _) _ _ _) | (with_reducible show wpAny _ _ (call (Value.ref _) _) _ _ _) | (with_reducible show wpAny _ _ (compareOp _ _ (Value.ref _)) _ _ _) | ((have _ := (by with_reducible assumption : Stopper3)); (with_reducible show wpAny _ _ (execs _ _) _ _ _))); first | ((with_reducible show wpAny _ _ (eval (Expr.Call _ _ _ _) _) _ _ _); k_dflt refine Call_ ?_) | ((with_reducible show wpAny _ _ (newList _) _ _ _); k_dflt refine' newList_SL (by with_reducible assumption) (by k_asm) (by k_asm) (by first | decide | (simp only [List.length_cons, List.length_nil]; omega)) ?_; intro _ _ _ _ _ _ _; (try dsimp only)) | ((with_reducible show wpAny _ _ (eval (Expr.Name _ _) (envOfC _ _ _ _ _)) _ _ _); k_dflt first | refine' nmL (by rfl) (by first | rfl | assumption) (by k_asm) (by first | exact Has.get (by with_reducible assumption) (by exact rfl) | exact rfl) ?_ | refine' nmC (by rfl) (by first | rfl | assumption) (by k_asm) (by rfl) (by k_mem) (by with_reducible assumption) ?_) | walk1 | (dsimp only; walk1))))
 clear hmw3 U3
 (with_reducible rename Fr _ _ _ _ => kF); (with_reducible rename News _ _ _ _ => kN); (with_reducible rename SL _ _ _ _ _ _ _ _ _ _ _ _ => sl4)
 (with_reducible rename ∀ p ∈ (I, it) :: _, _ => hDb)
 rename_i Db _ nw4 _
 have U4 := sl4.uniq
 have hmw4 := sl4.mem (.tail _ (.tail _ (.tail _ (.head _))))
 first | ((with_reducible refine execs_cons_gen ?_); intro _; (try dsimp only)) | walk1
 repeat' first | (k_unfold; (try dsimp only)) | ((fail_if_success (with_reducible first | refine WG ?_ | refine FG ?_)); (fail_if_success first | (with_reducible show wpAny _ _ (subscriptTail _ _ (Value.ref _) (Value.int _ _)) _ _ _) | (with_reducible show wpAny _ _ (call (Value.type "bytes") _) _ _ _) | (with_reducible show wpAny _ _ (call (Value.ref _) _) _ _ _) | (with_reducible show wpAny _ _ (compareOp _ _ (Value.ref _)) _ _ _) | ((have _ := (by with_reducible assumption : Stopper3)); (with_reducible show wpAny _ _ (execs _ _) _ _ _))); first | ((with_reducible show wpAny _ _ (eval (Expr.Call _ _ _ _) _) _ _ _); k_dflt refine Call_ ?_) | ((with_reducible show wpAny _ _ (eval (Expr.Name _ _) (envOfC _ _ _ _ _)) _ _ _); k_dflt first | refine' nmL (by rfl) (by first | rfl | assumption) (by k_asm) (by first | exact Has.get (by with_reducible assumption) (by exact rfl) | exact rfl) ?_ | refine' nmC (by rfl) (by first | rfl | assumption) (by k_asm) (by rfl) (by k_mem) (by with_reducible assumption) ?_) | walk1 | (dsimp only; walk1))
 repeat ((first | ((with_reducible show wpAny _ _ (call (Value.ref 35) _ _) _ _ _); (k_dflt refine' law_lev (by k_asm) (by k_asm) (by k_asm) (by k_asm) (by k_asm) (by with_reducible assumption) (by with_reducible assumption) ?_); intro _ _ _ _ _; (try dsimp only)) | ((with_reducible show wpAny _ _ (call (Value.ref 232) _ _) _ _ _); (k_dflt refine' law_price (by k_asm) (by k_asm) (by k_asm) (by k_asm) (by k_asm) (by with_reducible assumption) ?_); intro _ _ _ _ _; (try dsimp only)) | ((with_reducible show wpAny _ _ (subscriptTail _ _ (Value.ref _) (Value.int _ _)) _ _ _); (k_dflt refine' subK (by k_asm) (by k_mem) (by decide) (by decide) (by rfl) ?_); (try dsimp only)) | ((with_reducible show wpAny _ _ (subscriptTail _ _ (Value.ref _) (Value.int _ _)) _ _ _); (k_dflt refine' subO (by k_asm) (by k_mem) (by with_reducible assumption) (by with_reducible assumption) ?_ (by with_reducible assumption)); intro _; (try dsimp only)) | ((with_reducible show wpAny _ _ (call (Value.type "bytes") _ _) _ _ _); (k_dflt refine' law_bytes (by k_asm) (by k_asm) (by k_mem) (by with_reducible assumption) (by with_reducible assumption) (by with_reducible assumption) ?_); intro _ _ _ _ _; (try dsimp only)) | ((with_reducible show wpAny _ _ (call (Value.ref 74) _ _) _ _ _); (k_dflt refine' law_b64 (by k_asm) (by k_asm) (by k_asm) (by k_asm) (by k_asm) (by with_reducible assumption) (by with_reducible assumption) (by with_reducible assumption) ?_); intro _ _ _ _ _; (try dsimp only)) | ((with_reducible show wpAny _ _ (call (Value.ref 81) _ _) _ _ _); (k_dflt refine' law_b16 (by k_asm) (by k_asm) (by k_asm) (by k_asm) (by k_asm) (by with_reducible assumption) (by with_reducible assumption) (by with_reducible assumption) ?_); intro _ _ _ _ _; (try dsimp only)) | ((with_reducible show wpAny _ _ (call (Value.ref 218) _ _) _ _ _); (k_dflt refine' law_text (by k_asm) (by k_asm) (by k_asm) (by k_asm) (by k_asm) (by with_reducible assumption) (by with_reducible assumption) ?_); intro _ _ _ _ _; (try dsimp only)) | ((with_reducible show wpAny _ _ (call (Value.ref 208) _ _) _ _ _); (k_dflt refine' law_sixes (by k_asm) (by k_asm) (by k_asm) (by k_asm) (by k_asm) (by k_mem) (by with_reducible assumption) (by with_reducible assumption) (by with_reducible assumption) ?_); intro _ _ _ _ _; (try dsimp only)) | ((with_reducible show wpAny _ _ (call (Value.ref 213) _ _) _ _ _); (k_dflt refine' law_halves (by k_asm) (by k_asm) (by k_asm) (by k_asm) (by k_asm) (by with_reducible assumption) (by k_mem) (by with_reducible assumption) (by with_reducible assumption) (by with_reducible assumption) ?_); intro _ _ _ _ _; (try dsimp only))); (repeat' first | (k_unfold; (try dsimp only)) | ((fail_if_success (with_reducible first | refine WG ?_ | refine FG ?_)); (fail_if_success first | (with_reducible show wpAny _ _ (subscriptTail _ _ (Value.ref _) (Value.int _ _)) _ _ _) | (with_reducible show wpAny _ _ (call (Value.type "bytes") _) _ _ _) | (with_reducible show wpAny _ _ (call (Value.ref _) _) _ _ _) | (with_reducible show wpAny _ _ (compareOp _ _ (Value.ref _)) _ _ _) | ((have _ := (by with_reducible assumption : Stopper3)); (with_reducible show wpAny _ _ (execs _ _) _ _ _))); first | ((with_reducible show wpAny _ _ (eval (Expr.Call _ _ _ _) _) _ _ _); k_dflt refine Call_ ?_) | ((with_reducible show wpAny _ _ (newList _) _ _ _); k_dflt refine' newList_SL (by with_reducible assumption) (by k_asm) (by k_asm) (by first | decide | (simp only [List.length_cons, List.length_nil]; omega)) ?_; intro _ _ _ _ _ _ _; (try dsimp only)) | ((with_reducible show wpAny _ _ (eval (Expr.Name _ _) (envOfC _ _ _ _ _)) _ _ _); k_dflt first | refine' nmL (by rfl) (by first | rfl | assumption) (by k_asm) (by first | exact Has.get (by with_reducible assumption) (by exact rfl) | exact rfl) ?_ | refine' nmC (by rfl) (by first | rfl | assumption) (by k_asm) (by rfl) (by k_mem) (by with_reducible assumption) ?_) | walk1 | (dsimp only; walk1))))
 (with_reducible rename News _ _ _ _ => kN2); (with_reducible rename SL _ _ _ _ _ _ _ _ _ _ _ _ => sl5)
 refine ne_strsK kN2 (sl5.mem (.tail _ (.head _))) strs2 (sl5.mem (.head _)) strs2 (two_byte he1 hx1) (two_byte (sixF_byte (by omega) hos6 hos) hx1) lawUnits ?_
 rw [decide_eq_true (by rw [encF_sixF os (by omega) hos6 hos])]
 have sl6 := sl5.sub (fun p hp => .tail _ hp)
 clear sl5 sl4 U4 hmw4
 repeat' first | (k_unfold; (try dsimp only)) | ((fail_if_success (with_reducible first | refine WG ?_ | refine FG ?_)); (fail_if_success first | (with_reducible show wpAny _ _ (subscriptTail _ _ (Value.ref _) (Value.int _ _)) _ _ _) | (with_reducible show wpAny _ _ (call (Value.type "bytes") _) _ _ _) | (with_reducible show wpAny _ _ (call (Value.ref _) _) _ _ _) | (with_reducible show wpAny _ _ (compareOp _ _ (Value.ref _)) _ _ _) | ((have _ := (by with_reducible assumption : Stopper3)); (with_reducible show wpAny _ _ (execs _ _) _ _ _))); first | walk1 | (dsimp only; walk1))
 first | ((with_reducible refine execs_nil_gen ?_); intro _; (try dsimp only)) | walk1
 (with_reducible rename Fr _ _ _ _ => kF3)
 have sl7 := sl6.sub (rest' := (I, it) :: trio f vr er w3 ew vt et ((Db, _) :: rs)) (by
  intro p hp
  rcases List.mem_cons.mp hp with rfl | hp
  ·exact .tail _ (.head _)
  ·rcases List.mem_cons.mp hp with rfl | hp
   ·exact .tail _ (.tail _ (.head _))
   ·rcases List.mem_cons.mp hp with rfl | hp
    ·exact .tail _ (.tail _ (.tail _ (.head _)))
    ·rcases List.mem_cons.mp hp with rfl | hp
     ·exact .tail _ (.tail _ (.tail _ (.tail _ (.head _))))
     ·rcases List.mem_cons.mp hp with rfl | hp
      ·exact .head _
      ·exact .tail _ (.tail _ (.tail _ (.tail _ (.tail _ hp)))))
 subst hosd
 refine hret' _ _ _ _ _ w3 _ 0 Db kF3 kN2 ⟨sl7, ?_, com.mv.more ⟨Ne.symm (hDb _ (.tail _ (.head _))), Ne.symm (hDb _ (.tail _ (.tail _ (.head _)))), Ne.symm (hDb _ (.tail _ (.tail _ (.tail _ (.head _)))))⟩, c3, ⟨k8.out⟩, ⟨rfl⟩, .tail _ ra, .head _, .tail _ rh, hI3, ah, strs2, told.mono fun h => .tail _ h⟩
 intro p hp
 rcases List.mem_cons.mp hp with rfl | hp
 ·exact offI _ (.head _)
 ·rcases List.mem_cons.mp hp with rfl | hp
  ·exact hWI
  ·rcases List.mem_cons.mp hp with rfl | hp
   ·exact offI _ (.tail _ (.tail _ (.head _)))
   ·rcases List.mem_cons.mp hp with rfl | hp
    ·exact Ne.symm (hDb _ (.head _))
    ·exact offI p (.tail _ (.tail _ (.tail _ hp)))
end
section
open PySem PySem.W PyProof.Rows PySem.Calls
variable {w : World} {mean : ExcName → Option Value} {mg mb : Str → Option Value} {dp un : Nat} {gd : Option (List Code)} {cn : Str} {cs : Scope} {a : Addr} {ccd : Value} {cl : List (Str × Addr)} {outer : List Env} {A₀ : Around} {base h₀ : Heap} {L : Addr} {m : Str → Option Value} {news : List (Addr × Obj)} {s : Shared} {Q E : Value → Shared → Prop}
theorem law_T2 {f : FX} {t : Nat} {mean : ExcName → Option Value} {mg mb : Str → Option Value} {base h₀ : Heap} {fa w7 : Addr} {s : Shared} {m : FMap} {nw : Ledger} {qk : Flow → Shared → Prop} {v0 : List Value} {Dh : Addr} {po fi : Int} {k : Nat} {A B : List Nat} {I : Addr} {it : Obj} {np : Int → Int} {vr : List Value} {er : Nat} {wv : List Value} {ew : Nat} {vt : List Value} {et : Nat} {c : Nat → Option Value} {rs : Ledger} {va : List Value} {ea : Nat} {Da : Addr} {vb : List Value} {eb : Nat} {Db : Addr} {tk : Tok}
  (X0 : (Mine.hd.heap_39 f.w.params).In h₀) (T0 : Top vw loose0 mean mg mb h₀) (B0 : Below callerA base [] h₀) (FF : Fix f) (hk : k < f.n) (hA : A.length = k) (hAB : A.length + (B.length + 1) = f.n) (hA8 : ∀ o ∈ A, o < 256) (hB8 : ∀ o ∈ B, o < 256) (F : Fr h₀ f.L s.heap m) (N : News h₀ f.L s.heap nw)
  (P : InT f t v0 Dh po fi k A B I it np vr er wv ew vt et m nw c rs va ea Da vb eb Db tk)
  (hret : ∀ m nw rs h' tk', Fr h₀ f.L h' m → News h₀ f.L h' nw → InT f t v0 Dh po fi k A B I it np vr er wv ew vt et m nw c rs va ea Da vb eb Db tk →
   wpAny (model PySem.Challenge.rw_ny0310_01.row.prog f.w) (callerA.deeper (lawE f.L fa w7)) (execs (turnB 5) (lawE f.L fa w7)) qk NoE { s with heap := h', toks := tk' }) :
  wpAny (model PySem.Challenge.rw_ny0310_01.row.prog f.w) (callerA.deeper (lawE f.L fa w7)) (execs (turnB 3) (lawE f.L fa w7)) qk NoE s := by
 have hret' := hret
 conv at hret' in (turnB 5) => unfold turnB; whnf
 conv in (turnB 3) => unfold turnB; whnf
 unfold lawE at hret' ⊢
 simp only [show lawS = _ from by conv => lhs; whnf] at hret' ⊢
 clear hret
 obtain ⟨sl, offI, com, c3, k8, k10, ra, rb, rh, row, ah, bh, told⟩ := P
 refine ex2 (strs_two ah) fun ta ta' er1 => ?_
 subst er1
 refine ex2 (strs_two bh) fun tb tb' er2 => ?_
 subst er2
 have k1 := com.k1
 have k2 := com.k2
 have k3 := com.k3
 have hma := sl.mem (.tail _ (.tail _ (.tail _ (.tail _ ra))))
 have hmb := sl.mem (.tail _ (.tail _ (.tail _ (.tail _ rb))))
 have hmo := sl.mem (.tail _ (.tail _ (.tail _ (.tail _ com.r2))))
 have hmn := sl.mem (.tail _ (.tail _ (.tail _ (.tail _ com.r3))))
 have hyo := FF.old
 have hn6 := FF.n6
 have hyn := FF.new
 have ho8 := oldN_lt f.cs k
 have hn8 := newN_lt f.cs k
 have hx1 : (encF (A ++ oldN f.cs k :: B)).length ≤ 30 := enc_le (by rw [List.length_append, List.length_cons]; have := FF.n6; omega)
 have hx2 : (encF (A ++ newN f.cs k :: B)).length ≤ 30 := enc_le (by rw [List.length_append, List.length_cons]; have := FF.n6; omega)
 have hx3 : (hexE (A ++ oldN f.cs k :: B)).length ≤ 30 := hex_le (by rw [List.length_append, List.length_cons]; have := FF.n6; omega)
 have hx4 : (hexE (A ++ newN f.cs k :: B)).length ≤ 30 := hex_le (by rw [List.length_append, List.length_cons]; have := FF.n6; omega)
 have hkm : ((k : Int).fmod 3) = ((k % 3 : Nat) : Int) := by rw [Int.fmod_eq_emod_of_nonneg _ (by decide)]; omega
 have h11 : (1 : Int) = ((1 : Nat) : Int) := rfl
 have st3 : Stopper3 := trivial
 first | ((with_reducible refine execs_cons_gen ?_); intro _; (try dsimp only)) | walk1
 repeat' first | (k_unfold; (try dsimp only)) | ((fail_if_success (with_reducible first | refine WG ?_ | refine FG ?_)); (fail_if_success first | (with_reducible show wpAny _ _ (subscriptTail _ _ (Value.ref _) (Value.int _ _)) _ _ _) | (with_reducible show wpAny _ _ (call (Value.type "bytes") _) _ _ _) | (with_reducible show wpAny _ _ (call (Value.ref _) _) _ _ _) | (with_reducible show wpAny _ _ (compareOp _ _ (Value.ref _)) _ _ _) | ((have _ := (by with_reducible assumption : Stopper3)); (with_reducible show wpAny _ _ (execs _ _) _ _ _))); first | ((with_reducible show wpAny _ _ (eval (Expr.Call _ _ _ _) _) _ _ _); k_dflt refine Call_ ?_) | ((with_reducible show wpAny _ _ (eval (Expr.Name _ _) (envOfC _ _ _ _ _)) _ _ _); k_dflt first | refine' nmL (by rfl) (by first | rfl | assumption) (by k_asm) (by first | exact Has.get (by with_reducible assumption) (by exact rfl) | exact rfl) ?_ | refine' nmC (by rfl) (by first | rfl | assumption) (by k_asm) (by rfl) (by k_mem) (by with_reducible assumption) ?_) | walk1 | (dsimp only; walk1))
 repeat ((first | ((with_reducible show wpAny _ _ (call (Value.ref 35) _ _) _ _ _); (k_dflt refine' law_lev (by k_asm) (by k_asm) (by k_asm) (by k_asm) (by k_asm) (by with_reducible assumption) (by with_reducible assumption) ?_); intro _ _ _ _ _; (try dsimp only)) | ((with_reducible show wpAny _ _ (call (Value.ref 232) _ _) _ _ _); (k_dflt refine' law_price (by k_asm) (by k_asm) (by k_asm) (by k_asm) (by k_asm) (by with_reducible assumption) ?_); intro _ _ _ _ _; (try dsimp only)) | ((with_reducible show wpAny _ _ (subscriptTail _ _ (Value.ref _) (Value.int _ _)) _ _ _); (k_dflt refine' subK (by k_asm) (by k_mem) (by decide) (by decide) (by rfl) ?_); (try dsimp only)) | ((with_reducible show wpAny _ _ (subscriptTail _ _ (Value.ref _) (Value.int _ _)) _ _ _); (k_dflt refine' subO (by k_asm) (by k_mem) (by with_reducible assumption) (by with_reducible assumption) ?_ (by with_reducible assumption)); intro _; (try dsimp only)) | ((with_reducible show wpAny _ _ (call (Value.type "bytes") _ _) _ _ _); (k_dflt refine' law_bytes (by k_asm) (by k_asm) (by k_mem) (by with_reducible assumption) (by with_reducible assumption) (by with_reducible assumption) ?_); intro _ _ _ _ _; (try dsimp only)) | ((with_reducible show wpAny _ _ (call (Value.ref 74) _ _) _ _ _); (k_dflt refine' law_b64 (by k_asm) (by k_asm) (by k_asm) (by k_asm) (by k_asm) (by with_reducible assumption) (by with_reducible assumption) (by with_reducible assumption) ?_); intro _ _ _ _ _; (try dsimp only)) | ((with_reducible show wpAny _ _ (call (Value.ref 81) _ _) _ _ _); (k_dflt refine' law_b16 (by k_asm) (by k_asm) (by k_asm) (by k_asm) (by k_asm) (by with_reducible assumption) (by with_reducible assumption) (by with_reducible assumption) ?_); intro _ _ _ _ _; (try dsimp only)) | ((with_reducible show wpAny _ _ (call (Value.ref 218) _ _) _ _ _); (k_dflt refine' law_text (by k_asm) (by k_asm) (by k_asm) (by k_asm) (by k_asm) (by with_reducible assumption) (by with_reducible assumption) ?_); intro _ _ _ _ _; (try dsimp only)) | ((with_reducible show wpAny _ _ (call (Value.ref 208) _ _) _ _ _); (k_dflt refine' law_sixes (by k_asm) (by k_asm) (by k_asm) (by k_asm) (by k_asm) (by k_mem) (by with_reducible assumption) (by with_reducible assumption) (by with_reducible assumption) ?_); intro _ _ _ _ _; (try dsimp only)) | ((with_reducible show wpAny _ _ (call (Value.ref 213) _ _) _ _ _); (k_dflt refine' law_halves (by k_asm) (by k_asm) (by k_asm) (by k_asm) (by k_asm) (by with_reducible assumption) (by k_mem) (by with_reducible assumption) (by with_reducible assumption) (by with_reducible assumption) ?_); intro _ _ _ _ _; (try dsimp only))); (repeat' first | (k_unfold; (try dsimp only)) | ((fail_if_success (with_reducible first | refine WG ?_ | refine FG ?_)); (fail_if_success first | (with_reducible show wpAny _ _ (subscriptTail _ _ (Value.ref _) (Value.int _ _)) _ _ _) | (with_reducible show wpAny _ _ (call (Value.type "bytes") _) _ _ _) | (with_reducible show wpAny _ _ (call (Value.ref _) _) _ _ _) | (with_reducible show wpAny _ _ (compareOp _ _ (Value.ref _)) _ _ _) | ((have _ := (by with_reducible assumption : Stopper3)); (with_reducible show wpAny _ _ (execs _ _) _ _ _))); first | ((with_reducible show wpAny _ _ (eval (Expr.Call _ _ _ _) _) _ _ _); k_dflt refine Call_ ?_) | ((with_reducible show wpAny _ _ (newList _) _ _ _); k_dflt refine' newList_SL (by with_reducible assumption) (by k_asm) (by k_asm) (by first | decide | (simp only [List.length_cons, List.length_nil]; omega)) ?_; intro _ _ _ _ _ _ _; (try dsimp only)) | ((with_reducible show wpAny _ _ (eval (Expr.Name _ _) (envOfC _ _ _ _ _)) _ _ _); k_dflt first | refine' nmL (by rfl) (by first | rfl | assumption) (by k_asm) (by first | exact Has.get (by with_reducible assumption) (by exact rfl) | exact rfl) ?_ | refine' nmC (by rfl) (by first | rfl | assumption) (by k_asm) (by rfl) (by k_mem) (by with_reducible assumption) ?_) | walk1 | (dsimp only; walk1))))
 clear hma hmb hmo hmn
 (with_reducible rename Fr _ _ _ _ => kF); (with_reducible rename News _ _ _ _ => kN); (with_reducible rename SL _ _ _ _ _ _ _ _ _ _ _ _ => sl2)
 have hmo := sl2.mem (.tail _ (.tail _ (.tail _ (.tail _ (.tail _ com.r2)))))
 have hmn := sl2.mem (.tail _ (.tail _ (.tail _ (.tail _ (.tail _ com.r3)))))
 first | ((with_reducible refine execs_cons_gen ?_); intro _; (try dsimp only)) | walk1
 repeat' first | (k_unfold; (try dsimp only)) | ((fail_if_success (with_reducible first | refine WG ?_ | refine FG ?_)); (fail_if_success first | (with_reducible show wpAny _ _ (subscriptTail _ _ (Value.ref _) (Value.int _ _)) _ _ _) | (with_reducible show wpAny _ _ (call (Value.type "bytes") _) _ _ _) | (with_reducible show wpAny _ _ (call (Value.ref _) _) _ _ _) | (with_reducible show wpAny _ _ (compareOp _ _ (Value.ref _)) _ _ _) | ((have _ := (by with_reducible assumption : Stopper3)); (with_reducible show wpAny _ _ (execs _ _) _ _ _))); first | ((with_reducible show wpAny _ _ (eval (Expr.Call _ _ _ _) _) _ _ _); k_dflt refine Call_ ?_) | ((with_reducible show wpAny _ _ (eval (Expr.Name _ _) (envOfC _ _ _ _ _)) _ _ _); k_dflt refine' rdS (by rfl) (by rfl) (by rfl) (by with_reducible assumption) (by k_asm) (by rfl) (by first | exact rfl | exact CV.get (by with_reducible assumption) (by exact rfl)) ?_) | ((with_reducible show wpAny _ _ (eval (Expr.Name _ _) (envOfC _ _ _ _ _)) _ _ _); k_dflt first | refine' nmL (by rfl) (by first | rfl | assumption) (by k_asm) (by first | exact Has.get (by with_reducible assumption) (by exact rfl) | exact rfl) ?_ | refine' nmC (by rfl) (by first | rfl | assumption) (by k_asm) (by rfl) (by k_mem) (by with_reducible assumption) ?_) | walk1 | (dsimp only; walk1))
 repeat ((first | ((with_reducible show wpAny _ _ (call (Value.ref 35) _ _) _ _ _); (k_dflt refine' law_lev (by k_asm) (by k_asm) (by k_asm) (by k_asm) (by k_asm) (by with_reducible assumption) (by with_reducible assumption) ?_); intro _ _ _ _ _; (try dsimp only)) | ((with_reducible show wpAny _ _ (call (Value.ref 232) _ _) _ _ _); (k_dflt refine' law_price (by k_asm) (by k_asm) (by k_asm) (by k_asm) (by k_asm) (by with_reducible assumption) ?_); intro _ _ _ _ _; (try dsimp only)) | ((with_reducible show wpAny _ _ (subscriptTail _ _ (Value.ref _) (Value.int _ _)) _ _ _); (k_dflt refine' subK (by k_asm) (by k_mem) (by decide) (by decide) (by rfl) ?_); (try dsimp only)) | ((with_reducible show wpAny _ _ (subscriptTail _ _ (Value.ref _) (Value.int _ _)) _ _ _); (k_dflt refine' subO (by k_asm) (by k_mem) (by with_reducible assumption) (by with_reducible assumption) ?_ (by with_reducible assumption)); intro _; (try dsimp only)) | ((with_reducible show wpAny _ _ (call (Value.type "bytes") _ _) _ _ _); (k_dflt refine' law_bytes (by k_asm) (by k_asm) (by k_mem) (by with_reducible assumption) (by with_reducible assumption) (by with_reducible assumption) ?_); intro _ _ _ _ _; (try dsimp only)) | ((with_reducible show wpAny _ _ (call (Value.ref 74) _ _) _ _ _); (k_dflt refine' law_b64 (by k_asm) (by k_asm) (by k_asm) (by k_asm) (by k_asm) (by with_reducible assumption) (by with_reducible assumption) (by with_reducible assumption) ?_); intro _ _ _ _ _; (try dsimp only)) | ((with_reducible show wpAny _ _ (call (Value.ref 81) _ _) _ _ _); (k_dflt refine' law_b16 (by k_asm) (by k_asm) (by k_asm) (by k_asm) (by k_asm) (by with_reducible assumption) (by with_reducible assumption) (by with_reducible assumption) ?_); intro _ _ _ _ _; (try dsimp only)) | ((with_reducible show wpAny _ _ (call (Value.ref 218) _ _) _ _ _); (k_dflt refine' law_text (by k_asm) (by k_asm) (by k_asm) (by k_asm) (by k_asm) (by with_reducible assumption) (by with_reducible assumption) ?_); intro _ _ _ _ _; (try dsimp only)) | ((with_reducible show wpAny _ _ (call (Value.ref 208) _ _) _ _ _); (k_dflt refine' law_sixes (by k_asm) (by k_asm) (by k_asm) (by k_asm) (by k_asm) (by k_mem) (by with_reducible assumption) (by with_reducible assumption) (by with_reducible assumption) ?_); intro _ _ _ _ _; (try dsimp only)) | ((with_reducible show wpAny _ _ (call (Value.ref 213) _ _) _ _ _); (k_dflt refine' law_halves (by k_asm) (by k_asm) (by k_asm) (by k_asm) (by k_asm) (by with_reducible assumption) (by k_mem) (by with_reducible assumption) (by with_reducible assumption) (by with_reducible assumption) ?_); intro _ _ _ _ _; (try dsimp only))); (repeat' first | (k_unfold; (try dsimp only)) | ((fail_if_success (with_reducible first | refine WG ?_ | refine FG ?_)); (fail_if_success first | (with_reducible show wpAny _ _ (subscriptTail _ _ (Value.ref _) (Value.int _ _)) _ _ _) | (with_reducible show wpAny _ _ (call (Value.type "bytes") _) _ _ _) | (with_reducible show wpAny _ _ (call (Value.ref _) _) _ _ _) | (with_reducible show wpAny _ _ (compareOp _ _ (Value.ref _)) _ _ _) | ((have _ := (by with_reducible assumption : Stopper3)); (with_reducible show wpAny _ _ (execs _ _) _ _ _))); first | ((with_reducible show wpAny _ _ (eval (Expr.Call _ _ _ _) _) _ _ _); k_dflt refine Call_ ?_) | ((with_reducible show wpAny _ _ (eval (Expr.Name _ _) (envOfC _ _ _ _ _)) _ _ _); k_dflt refine' rdS (by rfl) (by rfl) (by rfl) (by with_reducible assumption) (by k_asm) (by rfl) (by first | exact rfl | exact CV.get (by with_reducible assumption) (by exact rfl)) ?_) | ((with_reducible show wpAny _ _ (newList _) _ _ _); k_dflt refine' newList_SL (by with_reducible assumption) (by k_asm) (by k_asm) (by first | decide | (simp only [List.length_cons, List.length_nil]; omega)) ?_; intro _ _ _ _ _ _ _; (try dsimp only)) | ((with_reducible show wpAny _ _ (eval (Expr.Name _ _) (envOfC _ _ _ _ _)) _ _ _); k_dflt first | refine' nmL (by rfl) (by first | rfl | assumption) (by k_asm) (by first | exact Has.get (by with_reducible assumption) (by exact rfl) | exact rfl) ?_ | refine' nmC (by rfl) (by first | rfl | assumption) (by k_asm) (by rfl) (by k_mem) (by with_reducible assumption) ?_) | walk1 | (dsimp only; walk1))))
 (with_reducible rename News _ _ _ _ => kN2); (with_reducible rename SL _ _ _ _ _ _ _ _ _ _ _ _ => sl3)
 refine ne_intsK kN2 (sl3.mem (.tail _ (.head _))) ints2 (sl3.mem (.head _)) ints2 lawUnits ?_
 have hn3 := FF.n3
 have ht0 := FF.t0
 rw [decide_eq_true (prices_eq hA8 hB8 ho8 hn8 hA (by omega) (by omega) (by omega))]
 repeat' first | (k_unfold; (try dsimp only)) | ((fail_if_success (with_reducible first | refine WG ?_ | refine FG ?_)); (fail_if_success first | (with_reducible show wpAny _ _ (subscriptTail _ _ (Value.ref _) (Value.int _ _)) _ _ _) | (with_reducible show wpAny _ _ (call (Value.type "bytes") _) _ _ _) | (with_reducible show wpAny _ _ (call (Value.ref _) _) _ _ _) | (with_reducible show wpAny _ _ (compareOp _ _ (Value.ref _)) _ _ _) | ((have _ := (by with_reducible assumption : Stopper3)); (with_reducible show wpAny _ _ (execs _ _) _ _ _))); first | walk1 | (dsimp only; walk1))
 first | ((with_reducible refine execs_nil_gen ?_); intro _; (try dsimp only)) | walk1
 (with_reducible rename Fr _ _ _ _ => kF3)
 exact hret' _ _ _ _ _ kF3 kN2 ⟨sl3.sub fun p hp => .tail _ (.tail _ hp), offI, com.mv, c3, ⟨k8.out⟩, ⟨k10.out⟩, ra, rb, rh, row, ah, bh, told⟩
end
section
open PySem PySem.W PyProof.Rows PySem.Calls
variable {w : World} {mean : ExcName → Option Value} {mg mb : Str → Option Value} {dp un : Nat} {gd : Option (List Code)} {cn : Str} {cs : Scope} {a : Addr} {ccd : Value} {cl : List (Str × Addr)} {outer : List Env} {A₀ : Around} {base h₀ : Heap} {L : Addr} {m : Str → Option Value} {news : List (Addr × Obj)} {s : Shared} {Q E : Value → Shared → Prop}
theorem law_T3 {f : FX} {t : Nat} {mean : ExcName → Option Value} {mg mb : Str → Option Value} {base h₀ : Heap} {fa w7 : Addr} {s : Shared} {m : FMap} {nw : Ledger} {qk : Flow → Shared → Prop} {v0 : List Value} {Dh : Addr} {po fi : Int} {k : Nat} {A B : List Nat} {I : Addr} {it : Obj} {np : Int → Int} {vr : List Value} {er : Nat} {wv : List Value} {ew : Nat} {vt : List Value} {et : Nat} {c : Nat → Option Value} {rs : Ledger} {va : List Value} {ea : Nat} {Da : Addr} {vb : List Value} {eb : Nat} {Db : Addr} {tk : Tok}
  (X0 : (Mine.hd.heap_39 f.w.params).In h₀) (T0 : Top vw loose0 mean mg mb h₀) (B0 : Below callerA base [] h₀) (FF : Fix f) (hk : k < f.n) (hA : A.length = k) (hAB : A.length + (B.length + 1) = f.n) (hA8 : ∀ o ∈ A, o < 256) (hB8 : ∀ o ∈ B, o < 256) (F : Fr h₀ f.L s.heap m) (N : News h₀ f.L s.heap nw)
  (P : InT f t v0 Dh po fi k A B I it np vr er wv ew vt et m nw c rs va ea Da vb eb Db tk)
  (hret : ∀ m nw rs h' tk', Fr h₀ f.L h' m → News h₀ f.L h' nw → InT f t v0 Dh po fi k A B I it np vr er wv ew vt et m nw c rs va ea Da vb eb Db tk →
   wpAny (model PySem.Challenge.rw_ny0310_01.row.prog f.w) (callerA.deeper (lawE f.L fa w7)) (execs (turnB 7) (lawE f.L fa w7)) qk NoE { s with heap := h', toks := tk' }) :
  wpAny (model PySem.Challenge.rw_ny0310_01.row.prog f.w) (callerA.deeper (lawE f.L fa w7)) (execs (turnB 5) (lawE f.L fa w7)) qk NoE s := by
 have hret' := hret
 conv at hret' in (turnB 7) => unfold turnB; whnf
 conv in (turnB 5) => unfold turnB; whnf
 unfold lawE at hret' ⊢
 simp only [show lawS = _ from by conv => lhs; whnf] at hret' ⊢
 clear hret
 obtain ⟨sl, offI, com, c3, k8, k10, ra, rb, rh, row, ah, bh, told⟩ := P
 refine ex2 (strs_two ah) fun ta ta' er1 => ?_
 subst er1
 refine ex2 (strs_two bh) fun tb tb' er2 => ?_
 subst er2
 have k1 := com.k1
 have k2 := com.k2
 have k3 := com.k3
 have hma := sl.mem (.tail _ (.tail _ (.tail _ (.tail _ ra))))
 have hmb := sl.mem (.tail _ (.tail _ (.tail _ (.tail _ rb))))
 have hmo := sl.mem (.tail _ (.tail _ (.tail _ (.tail _ com.r2))))
 have hmn := sl.mem (.tail _ (.tail _ (.tail _ (.tail _ com.r3))))
 have hyo := FF.old
 have hn6 := FF.n6
 have hn3 := FF.n3
 have ht0 := FF.t0
 have hyn := FF.new
 have ho8 := oldN_lt f.cs k
 have hn8 := newN_lt f.cs k
 have hx1 : (encF (A ++ oldN f.cs k :: B)).length ≤ 30 := enc_le (by rw [List.length_append, List.length_cons]; omega)
 have hx2 : (encF (A ++ newN f.cs k :: B)).length ≤ 30 := enc_le (by rw [List.length_append, List.length_cons]; omega)
 have hx3 : (hexE (A ++ oldN f.cs k :: B)).length ≤ 30 := hex_le (by rw [List.length_append, List.length_cons]; omega)
 have hx4 : (hexE (A ++ newN f.cs k :: B)).length ≤ 30 := hex_le (by rw [List.length_append, List.length_cons]; omega)
 have hlen : (hexE (A ++ newN f.cs k :: B)).length = 2 * f.n := by rw [hexE_len, List.length_append, List.length_cons, hAB]
 have hs1 : Txt.slice (mkS (hexE (A ++ newN f.cs k :: B))) none (some (2 * (k : Int) + 1)) = mkS ((hexE (A ++ newN f.cs k :: B)).take (2 * k + 1)) := by
  have := slice_take (l := hexE (A ++ newN f.cs k :: B)) (j := 2 * k + 1) (by omega)
  rw [← this]
  congr 2
 have hs2 : Txt.slice (mkS (hexE (A ++ newN f.cs k :: B))) (some (2 * (k : Int) + 2)) none = mkS ((hexE (A ++ newN f.cs k :: B)).drop (2 * k + 2)) := by
  have := slice_drop (l := hexE (A ++ newN f.cs k :: B)) (p := 2 * k + 2) (by omega)
  rw [← this]
  congr 2
 have hx5 : (hexE A ++ (hexUp (newN f.cs k / 16) :: hexE B)).length ≤ 30 := by
  rw [List.length_append, List.length_cons, hexE_len, hexE_len]
  omega
 have hshort := short16 A B ho8 hn8 (b := 4 + f.tot) (by omega)
 have st3 : Stopper3 := trivial
 first | ((with_reducible refine execs_cons_gen ?_); intro _; (try dsimp only)) | walk1
 repeat' first | (k_unfold; (try dsimp only)) | ((fail_if_success (with_reducible first | refine WG ?_ | refine FG ?_)); (fail_if_success first | (with_reducible show wpAny _ _ (subscriptTail _ _ (Value.ref _) (Value.int _ _)) _ _ _) | (with_reducible show wpAny _ _ (call (Value.type "bytes") _) _ _ _) | (with_reducible show wpAny _ _ (call (Value.ref _) _) _ _ _) | (with_reducible show wpAny _ _ (compareOp _ _ (Value.ref _)) _ _ _) | ((have _ := (by with_reducible assumption : Stopper3)); (with_reducible show wpAny _ _ (execs _ _) _ _ _))); first | ((with_reducible show wpAny _ _ (eval (Expr.Name _ _) (envOfC _ _ _ _ _)) _ _ _); k_dflt first | refine' nmL (by rfl) (by first | rfl | assumption) (by k_asm) (by first | exact Has.get (by with_reducible assumption) (by exact rfl) | exact rfl) ?_ | refine' nmC (by rfl) (by first | rfl | assumption) (by k_asm) (by rfl) (by k_mem) (by with_reducible assumption) ?_) | walk1 | (dsimp only; walk1))
 repeat ((first | ((with_reducible show wpAny _ _ (call (Value.ref 35) _ _) _ _ _); (k_dflt refine' law_lev (by k_asm) (by k_asm) (by k_asm) (by k_asm) (by k_asm) (by with_reducible assumption) (by with_reducible assumption) ?_); intro _ _ _ _ _; (try dsimp only)) | ((with_reducible show wpAny _ _ (call (Value.ref 232) _ _) _ _ _); (k_dflt refine' law_price (by k_asm) (by k_asm) (by k_asm) (by k_asm) (by k_asm) (by with_reducible assumption) ?_); intro _ _ _ _ _; (try dsimp only)) | ((with_reducible show wpAny _ _ (subscriptTail _ _ (Value.ref _) (Value.int _ _)) _ _ _); (k_dflt refine' subK (by k_asm) (by k_mem) (by decide) (by decide) (by rfl) ?_); (try dsimp only)) | ((with_reducible show wpAny _ _ (subscriptTail _ _ (Value.ref _) (Value.int _ _)) _ _ _); (k_dflt refine' subO (by k_asm) (by k_mem) (by with_reducible assumption) (by with_reducible assumption) ?_ (by with_reducible assumption)); intro _; (try dsimp only)) | ((with_reducible show wpAny _ _ (call (Value.type "bytes") _ _) _ _ _); (k_dflt refine' law_bytes (by k_asm) (by k_asm) (by k_mem) (by with_reducible assumption) (by with_reducible assumption) (by with_reducible assumption) ?_); intro _ _ _ _ _; (try dsimp only)) | ((with_reducible show wpAny _ _ (call (Value.ref 74) _ _) _ _ _); (k_dflt refine' law_b64 (by k_asm) (by k_asm) (by k_asm) (by k_asm) (by k_asm) (by with_reducible assumption) (by with_reducible assumption) (by with_reducible assumption) ?_); intro _ _ _ _ _; (try dsimp only)) | ((with_reducible show wpAny _ _ (call (Value.ref 81) _ _) _ _ _); (k_dflt refine' law_b16 (by k_asm) (by k_asm) (by k_asm) (by k_asm) (by k_asm) (by with_reducible assumption) (by with_reducible assumption) (by with_reducible assumption) ?_); intro _ _ _ _ _; (try dsimp only)) | ((with_reducible show wpAny _ _ (call (Value.ref 218) _ _) _ _ _); (k_dflt refine' law_text (by k_asm) (by k_asm) (by k_asm) (by k_asm) (by k_asm) (by with_reducible assumption) (by with_reducible assumption) ?_); intro _ _ _ _ _; (try dsimp only)) | ((with_reducible show wpAny _ _ (call (Value.ref 208) _ _) _ _ _); (k_dflt refine' law_sixes (by k_asm) (by k_asm) (by k_asm) (by k_asm) (by k_asm) (by k_mem) (by with_reducible assumption) (by with_reducible assumption) (by with_reducible assumption) ?_); intro _ _ _ _ _; (try dsimp only)) | ((with_reducible show wpAny _ _ (call (Value.ref 213) _ _) _ _ _); (k_dflt refine' law_halves (by k_asm) (by k_asm) (by k_asm) (by k_asm) (by k_asm) (by with_reducible assumption) (by k_mem) (by with_reducible assumption) (by with_reducible assumption) (by with_reducible assumption) ?_); intro _ _ _ _ _; (try dsimp only))); (repeat' first | (k_unfold; (try dsimp only)) | ((fail_if_success (with_reducible first | refine WG ?_ | refine FG ?_)); (fail_if_success first | (with_reducible show wpAny _ _ (subscriptTail _ _ (Value.ref _) (Value.int _ _)) _ _ _) | (with_reducible show wpAny _ _ (call (Value.type "bytes") _) _ _ _) | (with_reducible show wpAny _ _ (call (Value.ref _) _) _ _ _) | (with_reducible show wpAny _ _ (compareOp _ _ (Value.ref _)) _ _ _) | ((have _ := (by with_reducible assumption : Stopper3)); (with_reducible show wpAny _ _ (execs _ _) _ _ _))); first | ((with_reducible show wpAny _ _ (eval (Expr.Name _ _) (envOfC _ _ _ _ _)) _ _ _); k_dflt refine' rdS (by rfl) (by rfl) (by rfl) (by with_reducible assumption) (by k_asm) (by rfl) (by first | exact rfl | exact CV.get (by with_reducible assumption) (by exact rfl)) ?_) | ((with_reducible show wpAny _ _ (eval (Expr.Name _ _) (envOfC _ _ _ _ _)) _ _ _); k_dflt first | refine' nmL (by rfl) (by first | rfl | assumption) (by k_asm) (by first | exact Has.get (by with_reducible assumption) (by exact rfl) | exact rfl) ?_ | refine' nmC (by rfl) (by first | rfl | assumption) (by k_asm) (by rfl) (by k_mem) (by with_reducible assumption) ?_) | walk1 | (dsimp only; walk1))))
 (with_reducible rename Fr _ _ _ _ => kF); (with_reducible rename News _ _ _ _ => kN)
 rw [hs1, hs2]
 refine add_K (by rw [List.length_take]; omega) (by rw [List.length_drop]; omega) ?_
 intro t5 k5
 rw [short_eq hA]
 dsimp only
 repeat' first | (k_unfold; (try dsimp only)) | ((fail_if_success (with_reducible first | refine WG ?_ | refine FG ?_)); (fail_if_success first | (with_reducible show wpAny _ _ (subscriptTail _ _ (Value.ref _) (Value.int _ _)) _ _ _) | (with_reducible show wpAny _ _ (call (Value.type "bytes") _) _ _ _) | (with_reducible show wpAny _ _ (call (Value.ref _) _) _ _ _) | (with_reducible show wpAny _ _ (compareOp _ _ (Value.ref _)) _ _ _) | ((have _ := (by with_reducible assumption : Stopper3)); (with_reducible show wpAny _ _ (execs _ _) _ _ _))); first | walk1 | (dsimp only; walk1))
 first | ((with_reducible refine execs_cons_gen ?_); intro _; (try dsimp only)) | walk1
 repeat' first | (k_unfold; (try dsimp only)) | ((fail_if_success (with_reducible first | refine WG ?_ | refine FG ?_)); (fail_if_success first | (with_reducible show wpAny _ _ (subscriptTail _ _ (Value.ref _) (Value.int _ _)) _ _ _) | (with_reducible show wpAny _ _ (call (Value.type "bytes") _) _ _ _) | (with_reducible show wpAny _ _ (call (Value.ref _) _) _ _ _) | (with_reducible show wpAny _ _ (compareOp _ _ (Value.ref _)) _ _ _) | ((have _ := (by with_reducible assumption : Stopper3)); (with_reducible show wpAny _ _ (execs _ _) _ _ _))); first | ((with_reducible show wpAny _ _ (eval (Expr.Call _ _ _ _) _) _ _ _); k_dflt refine Call_ ?_) | ((with_reducible show wpAny _ _ (eval (Expr.Name _ _) (envOfC _ _ _ _ _)) _ _ _); k_dflt first | refine' nmL (by rfl) (by first | rfl | assumption) (by k_asm) (by first | exact Has.get (by with_reducible assumption) (by exact rfl) | exact rfl) ?_ | refine' nmC (by rfl) (by first | rfl | assumption) (by k_asm) (by rfl) (by k_mem) (by with_reducible assumption) ?_) | walk1 | (dsimp only; walk1))
 repeat ((first | ((with_reducible show wpAny _ _ (call (Value.ref 35) _ _) _ _ _); (k_dflt refine' law_lev (by k_asm) (by k_asm) (by k_asm) (by k_asm) (by k_asm) (by with_reducible assumption) (by with_reducible assumption) ?_); intro _ _ _ _ _; (try dsimp only)) | ((with_reducible show wpAny _ _ (call (Value.ref 232) _ _) _ _ _); (k_dflt refine' law_price (by k_asm) (by k_asm) (by k_asm) (by k_asm) (by k_asm) (by with_reducible assumption) ?_); intro _ _ _ _ _; (try dsimp only)) | ((with_reducible show wpAny _ _ (subscriptTail _ _ (Value.ref _) (Value.int _ _)) _ _ _); (k_dflt refine' subK (by k_asm) (by k_mem) (by decide) (by decide) (by rfl) ?_); (try dsimp only)) | ((with_reducible show wpAny _ _ (subscriptTail _ _ (Value.ref _) (Value.int _ _)) _ _ _); (k_dflt refine' subO (by k_asm) (by k_mem) (by with_reducible assumption) (by with_reducible assumption) ?_ (by with_reducible assumption)); intro _; (try dsimp only)) | ((with_reducible show wpAny _ _ (call (Value.type "bytes") _ _) _ _ _); (k_dflt refine' law_bytes (by k_asm) (by k_asm) (by k_mem) (by with_reducible assumption) (by with_reducible assumption) (by with_reducible assumption) ?_); intro _ _ _ _ _; (try dsimp only)) | ((with_reducible show wpAny _ _ (call (Value.ref 74) _ _) _ _ _); (k_dflt refine' law_b64 (by k_asm) (by k_asm) (by k_asm) (by k_asm) (by k_asm) (by with_reducible assumption) (by with_reducible assumption) (by with_reducible assumption) ?_); intro _ _ _ _ _; (try dsimp only)) | ((with_reducible show wpAny _ _ (call (Value.ref 81) _ _) _ _ _); (k_dflt refine' law_b16 (by k_asm) (by k_asm) (by k_asm) (by k_asm) (by k_asm) (by with_reducible assumption) (by with_reducible assumption) (by with_reducible assumption) ?_); intro _ _ _ _ _; (try dsimp only)) | ((with_reducible show wpAny _ _ (call (Value.ref 218) _ _) _ _ _); (k_dflt refine' law_text (by k_asm) (by k_asm) (by k_asm) (by k_asm) (by k_asm) (by with_reducible assumption) (by with_reducible assumption) ?_); intro _ _ _ _ _; (try dsimp only)) | ((with_reducible show wpAny _ _ (call (Value.ref 208) _ _) _ _ _); (k_dflt refine' law_sixes (by k_asm) (by k_asm) (by k_asm) (by k_asm) (by k_asm) (by k_mem) (by with_reducible assumption) (by with_reducible assumption) (by with_reducible assumption) ?_); intro _ _ _ _ _; (try dsimp only)) | ((with_reducible show wpAny _ _ (call (Value.ref 213) _ _) _ _ _); (k_dflt refine' law_halves (by k_asm) (by k_asm) (by k_asm) (by k_asm) (by k_asm) (by with_reducible assumption) (by k_mem) (by with_reducible assumption) (by with_reducible assumption) (by with_reducible assumption) ?_); intro _ _ _ _ _; (try dsimp only))); (repeat' first | (k_unfold; (try dsimp only)) | ((fail_if_success (with_reducible first | refine WG ?_ | refine FG ?_)); (fail_if_success first | (with_reducible show wpAny _ _ (subscriptTail _ _ (Value.ref _) (Value.int _ _)) _ _ _) | (with_reducible show wpAny _ _ (call (Value.type "bytes") _) _ _ _) | (with_reducible show wpAny _ _ (call (Value.ref _) _) _ _ _) | (with_reducible show wpAny _ _ (compareOp _ _ (Value.ref _)) _ _ _) | ((have _ := (by with_reducible assumption : Stopper3)); (with_reducible show wpAny _ _ (execs _ _) _ _ _))); first | ((with_reducible show wpAny _ _ (eval (Expr.Name _ _) (envOfC _ _ _ _ _)) _ _ _); k_dflt refine' rdS (by rfl) (by rfl) (by rfl) (by with_reducible assumption) (by k_asm) (by rfl) (by first | exact rfl | exact CV.get (by with_reducible assumption) (by exact rfl)) ?_) | ((with_reducible show wpAny _ _ (newList _) _ _ _); k_dflt refine' newList_SL (by with_reducible assumption) (by k_asm) (by k_asm) (by first | decide | (simp only [List.length_cons, List.length_nil]; omega)) ?_; intro _ _ _ _ _ _ _; (try dsimp only)) | ((with_reducible show wpAny _ _ (eval (Expr.Name _ _) (envOfC _ _ _ _ _)) _ _ _); k_dflt first | refine' nmL (by rfl) (by first | rfl | assumption) (by k_asm) (by first | exact Has.get (by with_reducible assumption) (by exact rfl) | exact rfl) ?_ | refine' nmC (by rfl) (by first | rfl | assumption) (by k_asm) (by rfl) (by k_mem) (by with_reducible assumption) ?_) | walk1 | (dsimp only; walk1))))
 (with_reducible rename Fr _ _ _ _ => kF2); (with_reducible rename News _ _ _ _ => kN2); (with_reducible rename SL _ _ _ _ _ _ _ _ _ _ _ _ => sl2)
 refine in_intsK kN2 (sl2.mem (.head _)) ints2 ?_
 rw [mem16]
 by_cases hq : newN f.cs k / 16 = oldN f.cs k / 16 ∨ newN f.cs k / 16 = oldN f.cs k % 16
 ·rw [decide_eq_true hq]
  rw [if_pos hq] at hshort
  rw [hshort]
  repeat' first | (k_unfold; (try dsimp only)) | ((fail_if_success (with_reducible first | refine WG ?_ | refine FG ?_)); (fail_if_success first | (with_reducible show wpAny _ _ (subscriptTail _ _ (Value.ref _) (Value.int _ _)) _ _ _) | (with_reducible show wpAny _ _ (call (Value.type "bytes") _) _ _ _) | (with_reducible show wpAny _ _ (call (Value.ref _) _) _ _ _) | (with_reducible show wpAny _ _ (compareOp _ _ (Value.ref _)) _ _ _) | ((have _ := (by with_reducible assumption : Stopper3)); (with_reducible show wpAny _ _ (execs _ _) _ _ _))); first | walk1 | (dsimp only; walk1))
  first | ((with_reducible refine execs_nil_gen ?_); intro _; (try dsimp only)) | walk1
  exact hret' _ _ _ _ _ kF2 kN2 ⟨sl2.sub fun p hp => .tail _ hp, offI, com.mv, c3, ⟨k8.out⟩, ⟨k10.out⟩, ra, rb, rh, row, ah, bh, told⟩
 ·rw [decide_eq_false hq]
  rw [if_neg hq] at hshort
  rw [hshort]
  repeat' first | (k_unfold; (try dsimp only)) | ((fail_if_success (with_reducible first | refine WG ?_ | refine FG ?_)); (fail_if_success first | (with_reducible show wpAny _ _ (subscriptTail _ _ (Value.ref _) (Value.int _ _)) _ _ _) | (with_reducible show wpAny _ _ (call (Value.type "bytes") _) _ _ _) | (with_reducible show wpAny _ _ (call (Value.ref _) _) _ _ _) | (with_reducible show wpAny _ _ (compareOp _ _ (Value.ref _)) _ _ _) | ((have _ := (by with_reducible assumption : Stopper3)); (with_reducible show wpAny _ _ (execs _ _) _ _ _))); first | walk1 | (dsimp only; walk1))
  first | ((with_reducible refine execs_nil_gen ?_); intro _; (try dsimp only)) | walk1
  exact hret' _ _ _ _ _ kF2 kN2 ⟨sl2.sub fun p hp => .tail _ hp, offI, com.mv, c3, ⟨k8.out⟩, ⟨k10.out⟩, ra, rb, rh, row, ah, bh, told⟩
end
section
open PySem PySem.W PyProof.Rows PySem.Calls
variable {w : World} {mean : ExcName → Option Value} {mg mb : Str → Option Value} {dp un : Nat} {gd : Option (List Code)} {cn : Str} {cs : Scope} {a : Addr} {ccd : Value} {cl : List (Str × Addr)} {outer : List Env} {A₀ : Around} {base h₀ : Heap} {L : Addr} {m : Str → Option Value} {news : List (Addr × Obj)} {s : Shared} {Q E : Value → Shared → Prop}
theorem law_T4 {f : FX} {t : Nat} {mean : ExcName → Option Value} {mg mb : Str → Option Value} {base h₀ : Heap} {fa w7 : Addr} {s : Shared} {m : FMap} {nw : Ledger} {qk : Flow → Shared → Prop} {v0 : List Value} {Dh : Addr} {po fi : Int} {k : Nat} {A B : List Nat} {I : Addr} {it : Obj} {np : Int → Int} {vr : List Value} {er : Nat} {wv : List Value} {ew : Nat} {vt : List Value} {et : Nat} {c : Nat → Option Value} {rs : Ledger} {va : List Value} {ea : Nat} {Da : Addr} {vb : List Value} {eb : Nat} {Db : Addr} {tk : Tok}
  (X0 : (Mine.hd.heap_39 f.w.params).In h₀) (T0 : Top vw loose0 mean mg mb h₀) (B0 : Below callerA base [] h₀) (FF : Fix f) (hk : k < f.n) (hA : A.length = k) (hAB : A.length + (B.length + 1) = f.n) (hA8 : ∀ o ∈ A, o < 256) (hB8 : ∀ o ∈ B, o < 256) (F : Fr h₀ f.L s.heap m) (N : News h₀ f.L s.heap nw)
  (P : InT f t v0 Dh po fi k A B I it np vr er wv ew vt et m nw c rs va ea Da vb eb Db tk)
  (hret : ∀ m nw rs h' tk', Fr h₀ f.L h' m → News h₀ f.L h' nw → InT f t v0 Dh po fi k A B I it np vr er wv ew vt et m nw c rs va ea Da vb eb Db tk →
   wpAny (model PySem.Challenge.rw_ny0310_01.row.prog f.w) (callerA.deeper (lawE f.L fa w7)) (execs (turnB 8) (lawE f.L fa w7)) qk NoE { s with heap := h', toks := tk' }) :
  wpAny (model PySem.Challenge.rw_ny0310_01.row.prog f.w) (callerA.deeper (lawE f.L fa w7)) (execs (turnB 7) (lawE f.L fa w7)) qk NoE s := by
 have hret' := hret
 conv at hret' in (turnB 8) => unfold turnB; whnf
 conv in (turnB 7) => unfold turnB; whnf
 unfold lawE at hret' ⊢
 simp only [show lawS = _ from by conv => lhs; whnf] at hret' ⊢
 clear hret
 obtain ⟨sl, offI, com, c3, k8, k10, ra, rb, rh, row, ah, bh, told⟩ := P
 refine ex2 (strs_two ah) fun ta ta' er1 => ?_
 subst er1
 refine ex2 (strs_two bh) fun tb tb' er2 => ?_
 subst er2
 have k1 := com.k1
 have k2 := com.k2
 have k3 := com.k3
 have hma := sl.mem (.tail _ (.tail _ (.tail _ (.tail _ ra))))
 have hmb := sl.mem (.tail _ (.tail _ (.tail _ (.tail _ rb))))
 have hmo := sl.mem (.tail _ (.tail _ (.tail _ (.tail _ com.r2))))
 have hmn := sl.mem (.tail _ (.tail _ (.tail _ (.tail _ com.r3))))
 have hyo := FF.old
 have hn6 := FF.n6
 have hn3 := FF.n3
 have ht0 := FF.t0
 have hyn := FF.new
 have ho8 := oldN_lt f.cs k
 have hn8 := newN_lt f.cs k
 have hx1 : (encF (A ++ oldN f.cs k :: B)).length ≤ 30 := enc_le (by rw [List.length_append, List.length_cons]; omega)
 have hx2 : (encF (A ++ newN f.cs k :: B)).length ≤ 30 := enc_le (by rw [List.length_append, List.length_cons]; omega)
 have hx3 : (hexE (A ++ oldN f.cs k :: B)).length ≤ 30 := hex_le (by rw [List.length_append, List.length_cons]; omega)
 have hx4 : (hexE (A ++ newN f.cs k :: B)).length ≤ 30 := hex_le (by rw [List.length_append, List.length_cons]; omega)
 have hz := zero_eq hA8 hB8 ho8 hn8 (by omega) (by omega)
 have st3 : Stopper3 := trivial
 first | ((with_reducible refine execs_cons_gen ?_); intro _; (try dsimp only)) | walk1
 repeat' first | (k_unfold; (try dsimp only)) | ((fail_if_success (with_reducible first | refine WG ?_ | refine FG ?_)); (fail_if_success first | (with_reducible show wpAny _ _ (subscriptTail _ _ (Value.ref _) (Value.int _ _)) _ _ _) | (with_reducible show wpAny _ _ (call (Value.type "bytes") _) _ _ _) | (with_reducible show wpAny _ _ (call (Value.ref _) _) _ _ _) | (with_reducible show wpAny _ _ (compareOp _ _ (Value.ref _)) _ _ _) | ((have _ := (by with_reducible assumption : Stopper3)); (with_reducible show wpAny _ _ (execs _ _) _ _ _))); first | ((with_reducible show wpAny _ _ (eval (Expr.Call _ _ _ _) _) _ _ _); k_dflt refine Call_ ?_) | ((with_reducible show wpAny _ _ (eval (Expr.Name _ _) (envOfC _ _ _ _ _)) _ _ _); k_dflt first | refine' nmL (by rfl) (by first | rfl | assumption) (by k_asm) (by first | exact Has.get (by with_reducible assumption) (by exact rfl) | exact rfl) ?_ | refine' nmC (by rfl) (by first | rfl | assumption) (by k_asm) (by rfl) (by k_mem) (by with_reducible assumption) ?_) | walk1 | (dsimp only; walk1))
 repeat ((first | ((with_reducible show wpAny _ _ (call (Value.ref 35) _ _) _ _ _); (k_dflt refine' law_lev (by k_asm) (by k_asm) (by k_asm) (by k_asm) (by k_asm) (by with_reducible assumption) (by with_reducible assumption) ?_); intro _ _ _ _ _; (try dsimp only)) | ((with_reducible show wpAny _ _ (call (Value.ref 232) _ _) _ _ _); (k_dflt refine' law_price (by k_asm) (by k_asm) (by k_asm) (by k_asm) (by k_asm) (by with_reducible assumption) ?_); intro _ _ _ _ _; (try dsimp only)) | ((with_reducible show wpAny _ _ (subscriptTail _ _ (Value.ref _) (Value.int _ _)) _ _ _); (k_dflt refine' subK (by k_asm) (by k_mem) (by decide) (by decide) (by rfl) ?_); (try dsimp only)) | ((with_reducible show wpAny _ _ (subscriptTail _ _ (Value.ref _) (Value.int _ _)) _ _ _); (k_dflt refine' subO (by k_asm) (by k_mem) (by with_reducible assumption) (by with_reducible assumption) ?_ (by with_reducible assumption)); intro _; (try dsimp only)) | ((with_reducible show wpAny _ _ (call (Value.type "bytes") _ _) _ _ _); (k_dflt refine' law_bytes (by k_asm) (by k_asm) (by k_mem) (by with_reducible assumption) (by with_reducible assumption) (by with_reducible assumption) ?_); intro _ _ _ _ _; (try dsimp only)) | ((with_reducible show wpAny _ _ (call (Value.ref 74) _ _) _ _ _); (k_dflt refine' law_b64 (by k_asm) (by k_asm) (by k_asm) (by k_asm) (by k_asm) (by with_reducible assumption) (by with_reducible assumption) (by with_reducible assumption) ?_); intro _ _ _ _ _; (try dsimp only)) | ((with_reducible show wpAny _ _ (call (Value.ref 81) _ _) _ _ _); (k_dflt refine' law_b16 (by k_asm) (by k_asm) (by k_asm) (by k_asm) (by k_asm) (by with_reducible assumption) (by with_reducible assumption) (by with_reducible assumption) ?_); intro _ _ _ _ _; (try dsimp only)) | ((with_reducible show wpAny _ _ (call (Value.ref 218) _ _) _ _ _); (k_dflt refine' law_text (by k_asm) (by k_asm) (by k_asm) (by k_asm) (by k_asm) (by with_reducible assumption) (by with_reducible assumption) ?_); intro _ _ _ _ _; (try dsimp only)) | ((with_reducible show wpAny _ _ (call (Value.ref 208) _ _) _ _ _); (k_dflt refine' law_sixes (by k_asm) (by k_asm) (by k_asm) (by k_asm) (by k_asm) (by k_mem) (by with_reducible assumption) (by with_reducible assumption) (by with_reducible assumption) ?_); intro _ _ _ _ _; (try dsimp only)) | ((with_reducible show wpAny _ _ (call (Value.ref 213) _ _) _ _ _); (k_dflt refine' law_halves (by k_asm) (by k_asm) (by k_asm) (by k_asm) (by k_asm) (by with_reducible assumption) (by k_mem) (by with_reducible assumption) (by with_reducible assumption) (by with_reducible assumption) ?_); intro _ _ _ _ _; (try dsimp only))); (repeat' first | (k_unfold; (try dsimp only)) | ((fail_if_success (with_reducible first | refine WG ?_ | refine FG ?_)); (fail_if_success first | (with_reducible show wpAny _ _ (subscriptTail _ _ (Value.ref _) (Value.int _ _)) _ _ _) | (with_reducible show wpAny _ _ (call (Value.type "bytes") _) _ _ _) | (with_reducible show wpAny _ _ (call (Value.ref _) _) _ _ _) | (with_reducible show wpAny _ _ (compareOp _ _ (Value.ref _)) _ _ _) | ((have _ := (by with_reducible assumption : Stopper3)); (with_reducible show wpAny _ _ (execs _ _) _ _ _))); first | ((with_reducible show wpAny _ _ (eval (Expr.Name _ _) (envOfC _ _ _ _ _)) _ _ _); k_dflt refine' rdS (by rfl) (by rfl) (by rfl) (by with_reducible assumption) (by k_asm) (by rfl) (by first | exact rfl | exact CV.get (by with_reducible assumption) (by exact rfl)) ?_) | ((with_reducible show wpAny _ _ (eval (Expr.Name _ _) (envOfC _ _ _ _ _)) _ _ _); k_dflt first | refine' nmL (by rfl) (by first | rfl | assumption) (by k_asm) (by first | exact Has.get (by with_reducible assumption) (by exact rfl) | exact rfl) ?_ | refine' nmC (by rfl) (by first | rfl | assumption) (by k_asm) (by rfl) (by k_mem) (by with_reducible assumption) ?_) | walk1 | (dsimp only; walk1))))
 all_goals (with_reducible rename Fr _ _ _ _ => kF); (with_reducible rename News _ _ _ _ => kN)
 ·rename_i q1 q2
  rw [hz, if_pos (by omega)] at q2
  exact absurd rfl q2
 ·first | ((with_reducible refine execs_nil_gen ?_); intro _; (try dsimp only)) | walk1
  exact hret' _ _ _ _ _ kF kN ⟨sl, offI, com.mv, c3, ⟨k8.out⟩, ⟨k10.out⟩, ra, rb, rh, row, ah, bh, told⟩
 ·rename_i q1 q2
  rw [hz, if_neg (by omega)] at q2
  exact absurd rfl q2
 ·first | ((with_reducible refine execs_nil_gen ?_); intro _; (try dsimp only)) | walk1
  exact hret' _ _ _ _ _ kF kN ⟨sl, offI, com.mv, c3, ⟨k8.out⟩, ⟨k10.out⟩, ra, rb, rh, row, ah, bh, told⟩
end
section
open PySem PySem.W PyProof.Rows PySem.Calls
variable {w : World} {mean : ExcName → Option Value} {mg mb : Str → Option Value} {dp un : Nat} {gd : Option (List Code)} {cn : Str} {cs : Scope} {a : Addr} {ccd : Value} {cl : List (Str × Addr)} {outer : List Env} {A₀ : Around} {base h₀ : Heap} {L : Addr} {m : Str → Option Value} {news : List (Addr × Obj)} {s : Shared} {Q E : Value → Shared → Prop}
theorem law_T5 {f : FX} {t : Nat} {mean : ExcName → Option Value} {mg mb : Str → Option Value} {base h₀ : Heap} {fa w7 : Addr} {s : Shared} {m : FMap} {nw : Ledger} {qk : Flow → Shared → Prop} {v0 : List Value} {Dh : Addr} {po fi : Int} {k : Nat} {A B : List Nat} {I : Addr} {it : Obj} {np : Int → Int} {vr : List Value} {er : Nat} {wv : List Value} {ew : Nat} {vt : List Value} {et : Nat} {c : Nat → Option Value} {rs : Ledger} {va : List Value} {ea : Nat} {Da : Addr} {vb : List Value} {eb : Nat} {Db : Addr} {tk : Tok} {q : List Int}
  (X0 : (Mine.hd.heap_39 f.w.params).In h₀) (T0 : Top vw loose0 mean mg mb h₀) (B0 : Below callerA base [] h₀) (FF : Fix f) (hkk : (k : Int) ∈ keysAt f.need f.n) (hnp : np k = -1) (hv : vr.length + (succAt f.need f.n k).length ≤ 1000) (hvs : IntsAre vr q) (hss : ∀ j ∈ succAt f.need f.n k, j ∈ keysAt f.need f.n) (F : Fr h₀ f.L s.heap m) (N : News h₀ f.L s.heap nw)
  (P : InT f t v0 Dh po fi k A B I it np vr er wv ew vt et m nw c rs va ea Da vb eb Db tk)
  (hret : ∀ m nw vs' e' h' tk', Fr h₀ f.L h' m → News h₀ f.L h' nw → SL f.w f.L nw f.Y (keysAt f.need f.n) (doneD (fun j => if j = (k : Int) then -2 else np j) q (succAt f.need f.n k)).1 (succAt f.need f.n) (.ref f.R) po (fi + 1) c ((I, it) :: trio f vs' e' wv ew vt et rs) → IntsAre vs' (doneD (fun j => if j = (k : Int) then -2 else np j) q (succAt f.need f.n k)).2 → Com f m c rs → Has m (Str.ofString "ahead") (.ref Db) → qk .next { s with heap := h', toks := tk' }) :
  wpAny (model PySem.Challenge.rw_ny0310_01.row.prog f.w) (callerA.deeper (lawE f.L fa w7)) (execs (turnB 8) (lawE f.L fa w7)) qk NoE s := by
 conv in (turnB 8) => unfold turnB; whnf
 unfold lawE
 simp only [show lawS = _ from by conv => lhs; whnf]
 obtain ⟨sl, offI, com, c3, k8, k10, ra, rb, rh, row, ah, bh, told⟩ := P
 have k5 := com.k5
 have hRI : f.R ≠ I := offI _ (.head _)
 have hset : ∀ {o'}, setL ((I, it) :: trio f vr er wv ew vt et rs) f.R o' = (I, it) :: (f.R, o') :: (f.Dw, listOf wv.toArray ew) :: (f.Dt, listOf vt.toArray et) :: rs := by
  intro o'
  unfold trio
  rw [setL_cons, if_neg (Ne.symm hRI), setL_cons, if_pos rfl, setL_cons, if_neg (Ne.symm com.ne.1), setL_cons, if_neg (Ne.symm com.ne.2.1), setL_off fun p hp => (com.off p hp).1]
 refine oEA (sl.ex) fun R2 I1 CR => ?_
 have hS := I1.inst
 refine ex6 (I1.sd) fun t1 t2 t3 t4 tpo tfi hdS => ?_
 repeat' first | (k_unfold; (try dsimp only)) | ((fail_if_success (with_reducible first | refine WG ?_ | refine FG ?_)); (fail_if_success first | (with_reducible show wpAny _ _ (subscriptTail _ _ (Value.ref _) (Value.int _ _)) _ _ _) | (with_reducible show wpAny _ _ (call (Value.type "bytes") _) _ _ _) | (with_reducible show wpAny _ _ (call (Value.ref _) _) _ _ _) | (with_reducible show wpAny _ _ (compareOp _ _ (Value.ref _)) _ _ _) | ((have _ := (by with_reducible assumption : Stopper3)); (with_reducible show wpAny _ _ (execs _ _) _ _ _))); first | ((with_reducible show wpAny _ _ (eval (Expr.Name _ _) (envOfC _ _ _ _ _)) _ _ _); k_dflt refine' rdS (by rfl) (by rfl) (by rfl) (by with_reducible assumption) (by k_asm) (by rfl) (by first | exact rfl | exact CV.get (by with_reducible assumption) (by exact rfl)) ?_) | ((with_reducible show wpAny _ _ (eval (Expr.Name _ _) (envOfC _ _ _ _ _)) _ _ _); k_dflt first | refine' nmL (by rfl) (by first | rfl | assumption) (by k_asm) (by first | exact Has.get (by with_reducible assumption) (by exact rfl) | exact rfl) ?_ | refine' nmC (by rfl) (by first | rfl | assumption) (by k_asm) (by rfl) (by k_mem) (by with_reducible assumption) ?_) | ((with_reducible refine execs_cons_gen ?_); intro _; (try dsimp only)) | walk1 | (dsimp only; walk1))
 (with_reducible rename Fr _ _ _ _ => kF); (with_reducible rename News _ _ _ _ => kN)
 (k_dflt refine' law_done B0 kF X0 kN T0 sl (.tail _ (.head _)) hv hvs hkk hnp hss ?_)
 intro vs' e' nw2 h2 tk2 hi S2 F2 N2
 rw [hset] at S2
 clear hS hdS I1
 dsimp only
 repeat' first | (k_unfold; (try dsimp only)) | ((fail_if_success (with_reducible first | refine WG ?_ | refine FG ?_)); (fail_if_success first | (with_reducible show wpAny _ _ (subscriptTail _ _ (Value.ref _) (Value.int _ _)) _ _ _) | (with_reducible show wpAny _ _ (call (Value.type "bytes") _) _ _ _) | (with_reducible show wpAny _ _ (call (Value.ref _) _) _ _ _) | (with_reducible show wpAny _ _ (compareOp _ _ (Value.ref _)) _ _ _) | ((have _ := (by with_reducible assumption : Stopper3)); (with_reducible show wpAny _ _ (execs _ _) _ _ _))); first | ((with_reducible refine execs_nil_gen ?_); intro _; (try dsimp only)) | walk1 | (dsimp only; walk1))
 (with_reducible rename Fr _ _ _ _ => kF2); (with_reducible rename News _ _ _ _ => kN2)
 exact hret _ _ vs' e' _ _ kF2 kN2 S2 hi com.mv ⟨rfl⟩
end
section
open PySem PySem.W PyProof.Rows PySem.Calls PySem.Spec
structure InB (f : FX) (t i : Nat) (rk : List Int) (v0 : List Value) (Dh : Addr) (m : FMap) (c : Nat → Option Value) (rs : Ledger) (np : Int → Int) (q : List Int) (vr wv vt : List Value) (va : List Value) (ea : Nat) (Da : Addr) : Prop where
 com : Com f m c rs
 k8 : Has m (Str.ofString "ahead") (.ref Da)
 ra : (Da, listOf va.toArray ea) ∈ rs
 rh : (Dh, tupOf v0) ∈ rs
 rv : IntsAre vr q
 ks : KS f.need (f.left t) (undone (f.left t) rk i) np q
 row : IntsAre wv ((rowU f.cs f.n (undone (f.left t) rk i)).map fun (c : Nat) => (c : Int))
 ah : StrsAre va ([encF (rowU f.cs f.n (undone (f.left t) rk i)), hexE (rowU f.cs f.n (undone (f.left t) rk i))].map mkS)
 told : Lists rs vt (dueI f.need f.n (t + 1))
theorem law_turn {f : FX} {t i k : Nat} {rk : List Int} {mean : ExcName → Option Value} {mg mb : Str → Option Value} {base h₀ : Heap} {fa w7 : Addr} {s : Shared} {m : FMap} {nw : Ledger} {qk : Flow → Shared → Prop} {v0 : List Value} {Dh : Addr} {p0 : Int} {I : Addr} {it : Obj} {np : Int → Int} {vr : List Value} {er : Nat} {wv : List Value} {ew : Nat} {vt : List Value} {et : Nat} {c : Nat → Option Value} {rs : Ledger} {va : List Value} {ea : Nat} {Da : Addr} {tk : Tok} {q : List Int}
  (X0 : (Mine.hd.heap_39 f.w.params).In h₀) (T0 : Top vw loose0 mean mg mb h₀) (B0 : Below callerA base [] h₀) (FF : Fix f) (hki : rk[i]? = some (k : Int)) (hp : rk.Perm (freeF f.need (f.left t))) (F : Fr h₀ f.L s.heap m) (N : News h₀ f.L s.heap nw)
  (sl : SL f.w f.L nw f.Y (keysAt f.need f.n) np (succAt f.need f.n) (.ref f.R) (p0 + rk.length) (p0 + i) c ((I, it) :: trio f vr er wv ew vt et rs)) (offI : ∀ p ∈ trio f vr er wv ew vt et rs, p.1 ≠ I) (c3 : CV c 3 (.int (k : Nat) tk)) (P : InB f t i rk v0 Dh m c rs np q vr wv vt va ea Da)
  (hfin : ∀ m nw rs np q vr er wv ew vt et va ea Da h' tk', Fr h₀ f.L h' m → News h₀ f.L h' nw → SL f.w f.L nw f.Y (keysAt f.need f.n) np (succAt f.need f.n) (.ref f.R) (p0 + rk.length) (p0 + (i + 1 : Nat)) c ((I, it) :: trio f vr er wv ew vt et rs) → (∀ p ∈ trio f vr er wv ew vt et rs, p.1 ≠ I) → InB f t (i + 1) rk v0 Dh m c rs np q vr wv vt va ea Da → qk .next { s with heap := h', toks := tk' }) :
  wpAny (model PySem.Challenge.rw_ny0310_01.row.prog f.w) (callerA.deeper (lawE f.L fa w7)) (execs (turnB 0) (lawE f.L fa w7)) qk NoE s := by
 obtain ⟨com, k8, ra, rh, rv, ks, row, ah, told⟩ := P
 have hkF : (k : Int) ∈ freeF f.need (f.left t) := hp.mem_iff.mp (List.mem_of_getElem? hki)
 have hkL := (mem_free.mp hkF).1
 have hkn := left_sub t _ hkL
 have hk : k < f.n := by rw [mem_rng] at hkn; omega
 have hnd : rk.Nodup := hp.nodup_iff.mpr ((left_nodup f.need f.n t).filter _)
 have hkU := undone_mem hnd hki hkL
 refine oEEAAAA (rowU_at (cs := f.cs) hk hkU) fun A B hA hA8 hB8 e1 e2 => ?_
 have hAB : A.length + (B.length + 1) = f.n := by
  have := rowU_len f.cs f.n (undone (f.left t) rk i)
  rw [e1, List.length_append, List.length_cons] at this
  exact this
 rw [e1] at row ah
 have hkk : (k : Int) ∈ keysAt f.need f.n := (mem_keysAt (needF_rng f.cs f.tot f.n)).mpr hkn
 have hnp := ks.free k hkF hkU
 have hss : ∀ j ∈ succAt f.need f.n k, j ∈ keysAt f.need f.n := fun j hj => (mem_keysAt (needF_rng f.cs f.tot f.n)).mpr (mem_succAt.mp hj).1
 have hv : vr.length + (succAt f.need f.n k).length ≤ 1000 := by
  have h1 := nodup_len ks.nodup (m := f.left t) (fun j hj => ((ks.mem j).mp hj).1)
  have h2 : (f.left t).length ≤ f.n := leftI_len f.need f.n t
  have h3 := succAt_len f.need f.n k (fun k _ => needF_len _ _ _ _)
  have h4 := rv.length
  have h5 := FF.n6
  show vr.length + _ ≤ 1000
  omega
 have hst := ks.step hkF hkU (succ_wait hkL (fun j hj => mem_succAt.mp hj)) (fun j hj => count_succAt (left_sub t j hj))
 rw [← undone_succ hki] at hst e2
 refine law_T1 X0 T0 B0 FF hk hA hAB hA8 hB8 F N sl offI com c3 k8 ra rh row ah told fun m1 nw1 rs1 h1 tk1 w1 vb1 eb1 Db1 F1 N1 P1 => ?_
 refine law_T2 X0 T0 B0 FF hk hA hAB hA8 hB8 F1 N1 P1 fun m2 nw2 rs2 h2 tk2 F2 N2 P2 => ?_
 refine law_T3 X0 T0 B0 FF hk hA hAB hA8 hB8 F2 N2 P2 fun m3 nw3 rs3 h3 tk3 F3 N3 P3 => ?_
 refine law_T4 X0 T0 B0 FF hk hA hAB hA8 hB8 F3 N3 P3 fun m4 nw4 rs4 h4 tk4 F4 N4 P4 => ?_
 refine law_T5 X0 T0 B0 FF hkk hnp hv rv hss F4 N4 P4 fun m5 nw5 v5 e5 h5 tk5 F5 N5 S5 hi5 com5 k85 => ?_
 refine hfin m5 nw5 rs4 _ _ v5 e5 w1 ew vt et vb1 eb1 Db1 h5 tk5 F5 N5 ?_ ?_ ⟨com5, k85, P4.rb, P4.rh, hi5, hst, ?_, ?_, P4.told⟩
 ·rw [show p0 + ((i + 1 : Nat) : Int) = p0 + (i : Int) + 1 by omega]
  exact S5
 ·intro p hp
  rcases List.mem_cons.mp hp with rfl | hp
  ·exact P4.offI (f.R, listOf vr.toArray er) (.head _)
  ·exact P4.offI p (.tail _ hp)
 ·rw [e2]; exact P4.row
 ·rw [e2]; exact P4.bh
end
section
open PySem PySem.W PyProof.Rows PySem.Calls
variable {w : World} {mean : ExcName → Option Value} {mg mb : Str → Option Value} {dp un : Nat} {gd : Option (List Code)} {cn : Str} {cs : Scope} {a : Addr} {ccd : Value} {cl : List (Str × Addr)} {outer : List Env} {A₀ : Around} {base h₀ : Heap} {L : Addr} {m : Str → Option Value} {news : List (Addr × Obj)} {s : Shared} {Q E : Value → Shared → Prop}
theorem law_S7 {f : FX} {mean : ExcName → Option Value} {mg mb : Str → Option Value} {base h₀ : Heap} {fa w7 : Addr} {s : Shared} {m : FMap} {nw : Ledger} {qk : Flow → Shared → Prop} {np : Int → Int} {rk : List Int} {po : Int} {vr : List Value} {er : Nat} {wv : List Value} {ew : Nat} {vt : List Value} {et : Nat} {c : Nat → Option Value} {rs : Ledger} {va : List Value} {ea : Nat} {Da : Addr}
  (X0 : (Mine.hd.heap_39 f.w.params).In h₀) (T0 : Top vw loose0 mean mg mb h₀) (B0 : Below callerA base [] h₀) (FF : Fix f) (F : Fr h₀ f.L s.heap m) (N : News h₀ f.L s.heap nw)
  (P : InS7 f 0 m nw c rs np rk po vr er wv ew vt et va ea Da)
  (hret : ∀ t m nw c rs np rk po vr er wv ew vt et va ea Da h' tk', Fr h₀ f.L h' m → News h₀ f.L h' nw → freeF f.need (f.left t) = [] → InS7 f t m nw c rs np rk po vr er wv ew vt et va ea Da →
   wpAny (model PySem.Challenge.rw_ny0310_01.row.prog f.w) (callerA.deeper (lawE f.L fa w7)) (execs (lawB 20) (lawE f.L fa w7)) qk NoE { s with heap := h', toks := tk' }) :
  wpAny (model PySem.Challenge.rw_ny0310_01.row.prog f.w) (callerA.deeper (lawE f.L fa w7)) (execs (lawB 19) (lawE f.L fa w7)) qk NoE s := by
 have hret' := hret
 have hturn := fun t i k rk s m nw qk v0 Dh p0 I it np vr er wv ew vt et c rs va ea Da tk q => @law_turn f t i k rk mean mg mb base h₀ fa w7 s m nw qk v0 Dh p0 I it np vr er wv ew vt et c rs va ea Da tk q X0 T0 B0 FF
 conv at hret' in (lawB 20) => unfold lawB; whnf
 conv at hturn in (turnB 0) => unfold turnB; whnf
 conv in (lawB 19) => unfold lawB; whnf
 unfold lawE at hret' hturn ⊢
 simp only [show lawS = _ from by conv => lhs; whnf] at hret' hturn ⊢
 clear hret
 first | ((with_reducible refine execs_cons_gen ?_); intro _; (try dsimp only)) | walk1
 refine letX3_15_2io (fun n m nw => ∃ t c rs np rk po vr er wv ew vt et va ea Da, n = f.n - t ∧ InS7 f t m nw c rs np rk po vr er wv ew vt et va ea Da : Nat → FMap → Ledger → Prop) (fun _ _ _ => .rfl) fun J hJi hJo => ?_
 refine letX2_15_2io (fun m nw => ∃ t c rs np rk po vr er wv ew vt et va ea Da, freeF f.need (f.left t) = [] ∧ InS7 f t m nw c rs np rk po vr er wv ew vt et va ea Da : FMap → Ledger → Prop) (fun _ _ => .rfl) fun P2 hP2i hP2o => ?_
 refine While_cut (s := ⟨_, _, _, _, _⟩) (n₀ := f.n - 0) J P2 F N ?_ ?_ ?_
 ·exact hJi _ _ _ (0) (c) (rs) (np) (rk) (po) (vr) (er) (wv) (ew) (vt) (et) (va) (ea) (Da) (rfl) (P)
 ·clear P F N
  intro n m₁ nw₁ h₁ tk₁ F₁ N₁ hj
  refine hJo _ _ _ hj _ fun t c rs np rk po vr er wv ew vt et va ea Da hnt P => ?_
  clear hj
  obtain ⟨sl, com, k8, ra, rv, kh, mes, row, ah, told⟩ := id P
  have k5 := com.k5
  have k9 := com.k9
  refine oEA (sl.ex) fun R2 I1 CR => ?_
  have hS := I1.inst
  refine ex6 (I1.sd) fun t1 t2 t3 t4 tpo tfi hdS => ?_
  have hn6 := FF.n6
  have hrl : rk.length ≤ 6 := by
   rw [kh.perm.length_eq]
   have h1 : (freeF f.need (f.left t)).length ≤ (f.left t).length := List.length_filter_le ..
   omega
  have hvl : vr.length = rk.length := rv.length
  repeat' first | (k_unfold; (try dsimp only)) | ((fail_if_success (with_reducible first | refine WG ?_ | refine FG ?_)); (fail_if_success first | (with_reducible show wpAny _ _ (call (Value.builtin "sorted") _) _ _ _) | (with_reducible show wpAny _ _ (subscriptTail _ _ (Value.ref _) (Value.int _ _)) _ _ _) | (with_reducible show wpAny _ _ (call (Value.type "bytes") _) _ _ _) | (with_reducible show wpAny _ _ (call (Value.ref _) _) _ _ _) | (with_reducible show wpAny _ _ (compareOp _ _ (Value.ref _)) _ _ _) | ((have _ := (by with_reducible assumption : Stopper3)); (with_reducible show wpAny _ _ (execs _ _) _ _ _))); first | ((with_reducible show wpAny _ _ (eval (Expr.Name _ _) (envOfC _ _ _ _ _)) _ _ _); k_dflt first | refine' nmL (by rfl) (by first | rfl | assumption) (by k_asm) (by first | exact Has.get (by with_reducible assumption) (by exact rfl) | exact rfl) ?_ | refine' nmC (by rfl) (by first | rfl | assumption) (by k_asm) (by rfl) (by k_mem) (by with_reducible assumption) ?_) | walk1 | (dsimp only; walk1))
  (with_reducible rename Fr _ _ _ _ => kF); (with_reducible rename News _ _ _ _ => kN)
  (k_dflt refine' law_active B0 kF X0 kN T0 sl (.head _) (by omega) ?_)
  intro h2 tk2 F2 N2
  have hpp : decide (po < po) = false := decide_eq_false (Int.lt_irrefl _)
  by_cases hf : freeF f.need (f.left t) = []
  ·have h0 : rk = [] := by
    have := kh.perm.length_eq
    rw [hf] at this
    exact List.length_eq_zero_iff.mp this
   have hv0 : vr = [] := List.length_eq_zero_iff.mp (by rw [hvl, h0]; rfl)
   rw [hpp, hv0]
   show wpAny _ _ (truthy (Value.bool false)) _ _ _
   repeat' first | (k_unfold; (try dsimp only)) | ((fail_if_success (with_reducible first | refine WG ?_ | refine FG ?_)); (fail_if_success first | (with_reducible show wpAny _ _ (call (Value.builtin "sorted") _) _ _ _) | (with_reducible show wpAny _ _ (subscriptTail _ _ (Value.ref _) (Value.int _ _)) _ _ _) | (with_reducible show wpAny _ _ (call (Value.type "bytes") _) _ _ _) | (with_reducible show wpAny _ _ (call (Value.ref _) _) _ _ _) | (with_reducible show wpAny _ _ (compareOp _ _ (Value.ref _)) _ _ _) | ((have _ := (by with_reducible assumption : Stopper3)); (with_reducible show wpAny _ _ (execs _ _) _ _ _))); first | walk1 | (dsimp only; walk1))
   refine Cut.mk F2 N2 ?_
   exact hP2i _ _ (t) (c) (rs) (np) (rk) (po) (vr) (er) (wv) (ew) (vt) (et) (va) (ea) (Da) (hf) (P)
  ·have hv0 : vr.isEmpty = false := by
    rw [← Bool.not_eq_true, List.isEmpty_iff_length_eq_zero, hvl, kh.perm.length_eq]
    exact fun e => hf (List.length_eq_zero_iff.mp e)
   rw [hpp, hv0]
   show wpAny _ _ (truthy (Value.bool true)) _ _ _
   have st3 : Stopper3 := trivial
   have hS := I1.inst
   repeat' first | (k_unfold; (try dsimp only)) | ((fail_if_success (with_reducible first | refine WG ?_ | refine FG ?_)); (fail_if_success first | (with_reducible show wpAny _ _ (call (Value.builtin "sorted") _) _ _ _) | (with_reducible show wpAny _ _ (subscriptTail _ _ (Value.ref _) (Value.int _ _)) _ _ _) | (with_reducible show wpAny _ _ (call (Value.type "bytes") _) _ _ _) | (with_reducible show wpAny _ _ (call (Value.ref _) _) _ _ _) | (with_reducible show wpAny _ _ (compareOp _ _ (Value.ref _)) _ _ _) | ((have _ := (by with_reducible assumption : Stopper3)); (with_reducible show wpAny _ _ (execs _ _) _ _ _))); first | walk1 | (dsimp only; walk1))
   first | ((with_reducible refine execs_cons_gen ?_); intro _; (try dsimp only)) | walk1
   repeat' first | (k_unfold; (try dsimp only)) | ((fail_if_success (with_reducible first | refine WG ?_ | refine FG ?_)); (fail_if_success first | (with_reducible show wpAny _ _ (call (Value.builtin "sorted") _) _ _ _) | (with_reducible show wpAny _ _ (subscriptTail _ _ (Value.ref _) (Value.int _ _)) _ _ _) | (with_reducible show wpAny _ _ (call (Value.type "bytes") _) _ _ _) | (with_reducible show wpAny _ _ (call (Value.ref _) _) _ _ _) | (with_reducible show wpAny _ _ (compareOp _ _ (Value.ref _)) _ _ _) | ((have _ := (by with_reducible assumption : Stopper3)); (with_reducible show wpAny _ _ (execs _ _) _ _ _))); first | ((with_reducible show wpAny _ _ (eval (Expr.Name _ _) (envOfC _ _ _ _ _)) _ _ _); k_dflt first | refine' nmL (by rfl) (by first | rfl | assumption) (by k_asm) (by first | exact Has.get (by with_reducible assumption) (by exact rfl) | exact rfl) ?_ | refine' nmC (by rfl) (by first | rfl | assumption) (by k_asm) (by rfl) (by k_mem) (by with_reducible assumption) ?_) | walk1 | (dsimp only; walk1))
   (with_reducible rename Fr _ _ _ _ => kF); (with_reducible rename News _ _ _ _ => kN)
   have hv1 : vr ≠ [] := fun e => by rw [e] at hv0; cases hv0
   have hkeys : ∀ k ∈ rk, k ∈ keysAt f.need f.n := fun k hk => (mem_keysAt (needF_rng f.cs f.tot f.n)).mpr (left_sub t k (mem_free.mp (kh.perm.mem_iff.mp hk)).1)
   (k_dflt refine' law_ready B0 kF X0 kN T0 sl (.head _) (by omega) hv1 rv hkeys ?_)
   intro Dh er' nw3 h3 tk3 hDh S3 F3 N3
   clear hS hdS I1
   unfold trio at S3 hDh
   rw [setL_cons, if_pos rfl, setL_cons, if_neg (Ne.symm com.ne.1), setL_cons, if_neg (Ne.symm com.ne.2.1), setL_off fun p hp => (com.off p hp).1] at S3
   dsimp only
   repeat' first | (k_unfold; (try dsimp only)) | ((fail_if_success (with_reducible first | refine WG ?_ | refine FG ?_)); (fail_if_success first | (with_reducible show wpAny _ _ (call (Value.builtin "sorted") _) _ _ _) | (with_reducible show wpAny _ _ (subscriptTail _ _ (Value.ref _) (Value.int _ _)) _ _ _) | (with_reducible show wpAny _ _ (call (Value.type "bytes") _) _ _ _) | (with_reducible show wpAny _ _ (call (Value.ref _) _) _ _ _) | (with_reducible show wpAny _ _ (compareOp _ _ (Value.ref _)) _ _ _) | ((have _ := (by with_reducible assumption : Stopper3)); (with_reducible show wpAny _ _ (execs _ _) _ _ _))); first | walk1 | (dsimp only; walk1))
   (with_reducible rename Fr _ _ _ _ => kF); (with_reducible rename News _ _ _ _ => kN)
   have hmh := S3.mem (.head _)
   have hmt := S3.mem (.tail _ (.tail _ (.tail _ (.head _))))
   first | ((with_reducible refine execs_cons_gen ?_); intro _; (try dsimp only)) | walk1
   repeat' first | (k_unfold; (try dsimp only)) | ((fail_if_success (with_reducible first | refine WG ?_ | refine FG ?_)); (fail_if_success first | (with_reducible show wpAny _ _ (call (Value.builtin "sorted") _) _ _ _) | (with_reducible show wpAny _ _ (subscriptTail _ _ (Value.ref _) (Value.int _ _)) _ _ _) | (with_reducible show wpAny _ _ (call (Value.type "bytes") _) _ _ _) | (with_reducible show wpAny _ _ (call (Value.ref _) _) _ _ _) | (with_reducible show wpAny _ _ (compareOp _ _ (Value.ref _)) _ _ _) | ((have _ := (by with_reducible assumption : Stopper3)); (with_reducible show wpAny _ _ (execs _ _) _ _ _))); first | ((with_reducible show wpAny _ _ (eval (Expr.Call _ _ _ _) _) _ _ _); k_dflt refine Call_ ?_) | ((with_reducible show wpAny _ _ (eval (Expr.Name _ _) (envOfC _ _ _ _ _)) _ _ _); k_dflt first | refine' nmL (by rfl) (by first | rfl | assumption) (by k_asm) (by first | exact Has.get (by with_reducible assumption) (by exact rfl) | exact rfl) ?_ | refine' nmC (by rfl) (by first | rfl | assumption) (by k_asm) (by rfl) (by k_mem) (by with_reducible assumption) ?_) | walk1 | (dsimp only; walk1))
   refine sorted_tupK kF kN hmh rv (by omega) ?_
   intro Ds h4 v4 n4 e4 F4 N4 l4 hi4 hp4 hs4
   have hn4 : n4 = freeF f.need (f.left t) := sorted_eq (hp4.trans kh.perm) hs4 (free_sorted f.need f.n t)
   rw [hn4] at hi4
   have S4 := S3.cons (o := listOf v4.toArray e4) (fun p hp => Nat.ne_of_lt (l4 p hp))
   replace N4 : News h₀ f.L h4 ((Ds, listOf v4.toArray e4) :: nw3) := N4
   have hDs := fun p hp => Nat.ne_of_lt (l4 p (S3.mem (p := p) hp))
   generalize (Ds, listOf v4.toArray e4) :: nw3 = nw4 at N4 S4
   have U4 := S4.uniq
   clear hmt hmh S3 l4
   have hmt := S4.mem (.tail _ (.tail _ (.tail _ (.tail _ (.head _)))))
   have hul : vt.toArray.size ≤ sizeLine := by
    rw [sizeLine_eq, List.size_toArray, told.length]
    have := dueI_len f.need f.n t
    omega
   dsimp only
   repeat' first | (k_unfold; (try dsimp only)) | ((fail_if_success (with_reducible first | refine WG ?_ | refine FG ?_)); (fail_if_success first | (with_reducible show wpAny _ _ (call (Value.builtin "sorted") _) _ _ _) | (with_reducible show wpAny _ _ (subscriptTail _ _ (Value.ref _) (Value.int _ _)) _ _ _) | (with_reducible show wpAny _ _ (call (Value.type "bytes") _) _ _ _) | (with_reducible show wpAny _ _ (call (Value.ref _) _) _ _ _) | (with_reducible show wpAny _ _ (compareOp _ _ (Value.ref _)) _ _ _) | ((have _ := (by with_reducible assumption : Stopper3)); (with_reducible show wpAny _ _ (execs _ _) _ _ _))); first | walk1 | (dsimp only; walk1))
   (with_reducible rename Fr _ _ _ _ => kF); (with_reducible rename News _ _ _ _ => kN)
   rw [List.push_toArray] at kN
   have S5 := S4.set (o' := listOf (vt ++ [Value.ref Ds]).toArray (et + 1)) (.tail _ (.tail _ (.tail _ (.tail _ (.head _)))))
   have dT : f.Dt ≠ Ds := hDs _ (.tail _ (.tail _ (.tail _ (.head _))))
   have dTh : f.Dt ≠ Dh := hDh _ (.tail _ (.tail _ (.head _)))
   rw [setL_cons, if_neg (Ne.symm dT), setL_cons, if_neg (Ne.symm dTh), setL_cons, if_neg com.ne.2.1, setL_cons, if_neg com.ne.2.2, setL_cons, if_pos rfl, setL_off fun p hp => (com.off p hp).2.2] at S5
   generalize setL nw4 f.Dt _ = nw5 at kN S5
   have S6 := S5.sub (rest' := trio f [] er' wv ew (vt ++ [Value.ref Ds]) (et + 1) ((Ds, listOf v4.toArray e4) :: (Dh, tupOf vr) :: rs)) (by
    intro p hp
    rcases List.mem_cons.mp hp with rfl | hp
    ·exact .tail _ (.tail _ (.head _))
    ·rcases List.mem_cons.mp hp with rfl | hp
     ·exact .tail _ (.tail _ (.tail _ (.head _)))
     ·rcases List.mem_cons.mp hp with rfl | hp
      ·exact .tail _ (.tail _ (.tail _ (.tail _ (.head _))))
      ·rcases List.mem_cons.mp hp with rfl | hp
       ·exact .head _
       ·rcases List.mem_cons.mp hp with rfl | hp
        ·exact .tail _ (.head _)
        ·exact .tail _ (.tail _ (.tail _ (.tail _ (.tail _ hp)))))
   have cm2 : Com f (fun y => if y = Str.ofString "handed" then some (Value.ref Dh) else m₁ y) c ((Ds, listOf v4.toArray e4) :: (Dh, tupOf vr) :: rs) := (com.mv.more ⟨Ne.symm (hDh _ (.head _)), Ne.symm (hDh _ (.tail _ (.head _))), Ne.symm dTh⟩).more ⟨Ne.symm (hDs _ (.tail _ (.head _))), Ne.symm (hDs _ (.tail _ (.tail _ (.head _)))), Ne.symm dT⟩
   have B2 : InB f t 0 rk vr Dh (fun y => if y = Str.ofString "handed" then some (Value.ref Dh) else m₁ y) c ((Ds, listOf v4.toArray e4) :: (Dh, tupOf vr) :: rs) (fun j => if j ∈ rk then -1 else np j) [] [] wv (vt ++ [Value.ref Ds]) va ea Da := by
    refine ⟨cm2, ⟨k8.out⟩, .tail _ (.tail _ ra), .tail _ (.head _), .nil, ?_, ?_, ?_, ?_⟩
    ·rw [undone_zero]; exact kh.start
    ·rw [undone_zero]; exact row
    ·rw [undone_zero]; exact ah
    ·rw [due_next hf]
     exact Lists.append (.cons (.head _) hi4 .nil) (told.mono fun h => .tail _ (.tail _ h))
   clear U4 hmt S4 S5 cm2 hDs hDh
   have hmh := S6.mem (.tail _ (.tail _ (.tail _ (.tail _ (.head _)))))
   first | ((with_reducible refine execs_cons_gen ?_); intro _; (try dsimp only)) | walk1
   refine For_enter ?_
   repeat' first | (k_unfold; (try dsimp only)) | ((fail_if_success (with_reducible first | refine WG ?_ | refine FG ?_)); (fail_if_success first | (with_reducible show wpAny _ _ (call (Value.builtin "sorted") _) _ _ _) | (with_reducible show wpAny _ _ (subscriptTail _ _ (Value.ref _) (Value.int _ _)) _ _ _) | (with_reducible show wpAny _ _ (call (Value.type "bytes") _) _ _ _) | (with_reducible show wpAny _ _ (call (Value.ref _) _) _ _ _) | (with_reducible show wpAny _ _ (compareOp _ _ (Value.ref _)) _ _ _) | ((have _ := (by with_reducible assumption : Stopper3)); (with_reducible show wpAny _ _ (execs _ _) _ _ _))); first | ((with_reducible show wpAny _ _ (eval (Expr.Name _ _) (envOfC _ _ _ _ _)) _ _ _); k_dflt first | refine' nmL (by rfl) (by first | rfl | assumption) (by k_asm) (by first | exact Has.get (by with_reducible assumption) (by exact rfl) | exact rfl) ?_ | refine' nmC (by rfl) (by first | rfl | assumption) (by k_asm) (by rfl) (by k_mem) (by with_reducible assumption) ?_) | walk1 | (dsimp only; walk1))
   refine letX3_13_2io (fun i m nw => ∃ c rs np q vr2 er wv ew vt et va ea Da, SL f.w f.L nw f.Y (keysAt f.need f.n) np (succAt f.need f.n) (.ref f.R) (po + rk.length) (po + (i : Nat)) c (trio f vr2 er wv ew vt et rs) ∧ InB f t i rk vr Dh m c rs np q vr2 wv vt va ea Da : Nat → FMap → Ledger → Prop) (fun _ _ _ => .rfl) fun J2 hJ2i hJ2o => ?_
   refine ForAt_tuple (s := ⟨_, _, _, _, _⟩) (items := vr) J2 (by rfl) ⟨_, kN.get hmh, rfl, _, rfl⟩ kF kN ?_ ?_ ?_ ?_
   ·refine hJ2i _ _ _ (c) _ _ ([]) ([]) (er') (wv) (ew) (vt ++ [Value.ref Ds]) (et + 1) (va) (ea) (Da) ?_ (B2)
    rw [show po + ((0 : Nat) : Int) = po by omega]
    exact S6
   ·intro i h m nw F N hj
    refine hJ2o _ _ _ hj _ fun c rs np q vr2 er wv ew vt et va ea Da S B => ?_
    clear hj
    exact ⟨_, N.get (S.mem (.tail _ (.tail _ (.tail _ B.rh)))), rfl, _, rfl⟩
   ·clear S6 B2 kF kN hmh hi4 hp4 hs4 hn4 dT dTh hul
    intro i v m₂ nw₂ h₂ tk₂ I it hi hj hne F₂ N₂
    refine hJ2o _ _ _ hj _ fun c rs np q vr2 er wv ew vt et va ea Da S B => ?_
    clear hj
    refine oEEA (rv.at i v hi) fun k' tk er1 hki => ?_
    subst er1
    have hkn := left_sub t _ (mem_free.mp (kh.perm.mem_iff.mp (List.mem_of_getElem? hki))).1
    refine ex1 ((⟨k'.toNat, by have := (mem_rng.mp hkn).1; omega⟩ : ∃ k : Nat, k' = (k : Int))) fun k er2 => ?_
    subst er2
    replace F₂ : Fr h₀ f.L h₂ m₂ := F₂
    replace N₂ : News h₀ f.L h₂ ((I, it) :: nw₂) := N₂
    have S2 := S.cons (o := it) hne
    have hoff : ∀ p ∈ trio f vr2 er wv ew vt et rs, p.1 ≠ I := fun p hp => hne p (S.mem hp)
    clear S hne
    generalize (I, it) :: nw₂ = nw6 at N₂ S2
    repeat' first | (k_unfold; (try dsimp only)) | ((fail_if_success (with_reducible first | refine WG ?_ | refine FG ?_)); (fail_if_success first | (with_reducible show wpAny _ _ (call (Value.builtin "sorted") _) _ _ _) | (with_reducible show wpAny _ _ (subscriptTail _ _ (Value.ref _) (Value.int _ _)) _ _ _) | (with_reducible show wpAny _ _ (call (Value.type "bytes") _) _ _ _) | (with_reducible show wpAny _ _ (call (Value.ref _) _) _ _ _) | (with_reducible show wpAny _ _ (compareOp _ _ (Value.ref _)) _ _ _) | ((have _ := (by with_reducible assumption : Stopper3)); (with_reducible show wpAny _ _ (execs _ _) _ _ _))); first | ((with_reducible show wpAny _ _ (storeName (envOfC _ _ _ _ _) _ _) _ _ _); k_dflt refine' stS (by rfl) (by rfl) (by rfl) (by with_reducible assumption) (by k_asm) (by k_asm) (by rfl) ?_; intro _ _ _ _ _; (try dsimp only)) | walk1 | (dsimp only; walk1))
    (with_reducible rename Fr _ _ _ _ => kF); (with_reducible rename News _ _ _ _ => kN); (with_reducible rename SL _ _ _ _ _ _ _ _ _ _ _ _ => S9)
    refine hturn t i k rk _ m₂ _ _ vr Dh po I it np vr2 er wv ew vt et _ rs va ea Da tk q hki kh.perm kF kN S9 hoff ⟨rfl⟩ { B with com := B.com.mv } ?_
    intro m nw rs np q vr3 er wv ew vt et va ea Da h' tk' F N S hoff' B'
    refine FPost.next F (news_drop N (S.mem (.head _))) dropA_ne ?_
    exact hJ2i _ _ _ _ (rs) (np) (q) (vr3) (er) (wv) (ew) (vt) (et) (va) (ea) (Da) (S.drop hoff') (B')
   ·intro m₂ nw₂ h₂ tk₂ hj F₂ N₂
    refine hJ2o _ _ _ hj _ fun c rs np q vr2 er wv ew vt et va ea Da S B => ?_
    clear hj
    dsimp only
    first | ((with_reducible refine execs_nil_gen ?_); intro _; (try dsimp only)) | walk1
    first | ((with_reducible refine execs_nil_gen ?_); intro _; (try dsimp only)) | walk1
    obtain ⟨com2, k82, ra2, rh2, rv2, ks2, row2, ah2, told2⟩ := B
    have hu : undone (f.left t) rk rk.length = f.left (t + 1) := undone_end kh.perm
    rw [hvl] at S ks2 row2 ah2
    rw [hu] at ks2 row2 ah2
    have hms := left_step hf mes
    refine WPost.next (n' := f.n - (t + 1)) F₂ N₂ (by omega) ?_
    exact hJi _ _ _ (t + 1) (c) (rs) (np) (q) _ (vr2) (er) (wv) (ew) (vt) (et) (va) (ea) (Da) (rfl) (⟨S, com2, k82, ra2, rv2, KS.finish (left_nodup f.need f.n t) ks2, hms, row2, ah2, told2⟩)
 ·intro m₁ nw₁ h₁ tk₁ F₁ N₁ hp
  refine hP2o _ _ hp _ fun t c rs np rk po vr er wv ew vt et va ea Da hf P => ?_
  clear hp
  exact hret' t _ _ c rs np rk po vr er wv ew vt et va ea Da _ _ F₁ N₁ hf P
end
section
open PySem PySem.W PyProof.Rows PySem.Calls
variable {w : World} {mean : ExcName → Option Value} {mg mb : Str → Option Value} {dp un : Nat} {gd : Option (List Code)} {cn : Str} {cs : Scope} {a : Addr} {ccd : Value} {cl : List (Str × Addr)} {outer : List Env} {A₀ : Around} {base h₀ : Heap} {L : Addr} {m : Str → Option Value} {news : List (Addr × Obj)} {s : Shared} {Q E : Value → Shared → Prop}
theorem law_S8 {f : FX} {t : Nat} {mean : ExcName → Option Value} {mg mb : Str → Option Value} {base h₀ : Heap} {fa w7 : Addr} {s : Shared} {m : FMap} {nw : Ledger} {qk : Flow → Shared → Prop} {np : Int → Int} {rk : List Int} {po : Int} {vr : List Value} {er : Nat} {wv : List Value} {ew : Nat} {vt : List Value} {et : Nat} {c : Nat → Option Value} {rs : Ledger} {va : List Value} {ea : Nat} {Da : Addr}
  (X0 : (Mine.hd.heap_39 f.w.params).In h₀) (T0 : Top vw loose0 mean mg mb h₀) (B0 : Below callerA base [] h₀) (FF : Fix f) (F : Fr h₀ f.L s.heap m) (N : News h₀ f.L s.heap nw) (hf : freeF f.need (f.left t) = [])
  (P : InS7 f t m nw c rs np rk po vr er wv ew vt et va ea Da)
  (hret : ∀ m nw h' tk', Fr h₀ f.L h' m → News h₀ f.L h' nw → qk (.ret (.bool true)) { s with heap := h', toks := tk' }) :
  wpAny (model PySem.Challenge.rw_ny0310_01.row.prog f.w) (callerA.deeper (lawE f.L fa w7)) (execs (lawB 20) (lawE f.L fa w7)) qk NoE s := by
 conv in (lawB 20) => unfold lawB; whnf
 unfold lawE
 simp only [show lawS = _ from by conv => lhs; whnf]
 obtain ⟨sl, com, k8, ra, rv, kh, mes, row, ah, told⟩ := P
 have k9 := com.k9
 have k4 := com.k4
 have k6 := com.k6
 have c5 := com.c5
 have C := sl.lf
 have hdue : dueI f.need f.n f.n = dueI f.need f.n t := due_end hf (by omega)
 repeat' first | (k_unfold; (try dsimp only)) | ((fail_if_success (with_reducible first | refine WG ?_ | refine FG ?_)); (fail_if_success first | (with_reducible show wpAny _ _ (call (Value.builtin "sorted") _) _ _ _) | (with_reducible show wpAny _ _ (subscriptTail _ _ (Value.ref _) (Value.int _ _)) _ _ _) | (with_reducible show wpAny _ _ (call (Value.type "bytes") _) _ _ _) | (with_reducible show wpAny _ _ (call (Value.ref _) _) _ _ _) | (with_reducible show wpAny _ _ (compareOp _ _ (Value.ref _)) _ _ _) | ((have _ := (by with_reducible assumption : Stopper3)); (with_reducible show wpAny _ _ (execs _ _) _ _ _))); first | ((with_reducible show wpAny _ _ (eval (Expr.Name _ _) (envOfC _ _ _ _ _)) _ _ _); k_dflt first | refine' nmL (by rfl) (by first | rfl | assumption) (by k_asm) (by first | exact Has.get (by with_reducible assumption) (by exact rfl) | exact rfl) ?_ | refine' nmC (by rfl) (by first | rfl | assumption) (by k_asm) (by rfl) (by k_mem) (by with_reducible assumption) ?_) | ((with_reducible refine execs_cons_gen ?_); intro _; (try dsimp only)) | walk1 | (dsimp only; walk1))
 (with_reducible rename Fr _ _ _ _ => kF); (with_reducible rename News _ _ _ _ => kN)
 have upm : ∀ {p : Addr × Obj}, p ∈ trio f vr er wv ew vt et rs → p ∈ nw := fun h => sl.mem h
 refine eq_listsK kN (sl.mem (.tail _ (.tail _ (.head _)))) (told.mono fun h => sl.mem (.tail _ (.tail _ (.tail _ h)))) (sl.mem (.tail _ (.tail _ (.tail _ com.ru)))) (com.due.mono fun h => sl.mem (.tail _ (.tail _ (.tail _ h)))) lawUnits ?_
 rw [decide_eq_true hdue.symm]
 repeat' first | (k_unfold; (try dsimp only)) | ((fail_if_success (with_reducible first | refine WG ?_ | refine FG ?_)); (fail_if_success first | (with_reducible show wpAny _ _ (call (Value.builtin "sorted") _) _ _ _) | (with_reducible show wpAny _ _ (subscriptTail _ _ (Value.ref _) (Value.int _ _)) _ _ _) | (with_reducible show wpAny _ _ (call (Value.type "bytes") _) _ _ _) | (with_reducible show wpAny _ _ (call (Value.ref _) _) _ _ _) | (with_reducible show wpAny _ _ (compareOp _ _ (Value.ref _)) _ _ _) | ((have _ := (by with_reducible assumption : Stopper3)); (with_reducible show wpAny _ _ (execs _ _) _ _ _))); first | ((with_reducible show wpAny _ _ (eval (Expr.Name _ _) (envOfC _ _ _ _ _)) _ _ _); k_dflt refine' rdS (by rfl) (by rfl) (by rfl) (by with_reducible assumption) (by k_asm) (by rfl) (by first | exact rfl | exact CV.get (by with_reducible assumption) (by exact rfl)) ?_) | ((with_reducible show wpAny _ _ (newList _) _ _ _); k_dflt refine' newList_SL (by with_reducible assumption) (by k_asm) (by k_asm) (by first | decide | (simp only [List.length_cons, List.length_nil]; omega)) ?_; intro _ _ _ _ _ _ _; (try dsimp only)) | ((with_reducible show wpAny _ _ (eval (Expr.Name _ _) (envOfC _ _ _ _ _)) _ _ _); k_dflt first | refine' nmL (by rfl) (by first | rfl | assumption) (by k_asm) (by first | exact Has.get (by with_reducible assumption) (by exact rfl) | exact rfl) ?_ | refine' nmC (by rfl) (by first | rfl | assumption) (by k_asm) (by rfl) (by k_mem) (by with_reducible assumption) ?_) | walk1 | (dsimp only; walk1))
 (with_reducible rename Fr _ _ _ _ => kF2); (with_reducible rename News _ _ _ _ => kN2); (with_reducible rename SL _ _ _ _ _ _ _ _ _ _ _ _ => sl2)
 refine ne_intsK kN2 (sl2.mem (.tail _ (.tail _ (.tail _ (.tail _ com.rl))))) com.lv (sl2.mem (.head _)) .nil lawUnits ?_
 cases decide (f.left f.n = []) with
 | true =>
  repeat' first | (k_unfold; (try dsimp only)) | ((fail_if_success (with_reducible first | refine WG ?_ | refine FG ?_)); (fail_if_success first | (with_reducible show wpAny _ _ (call (Value.builtin "sorted") _) _ _ _) | (with_reducible show wpAny _ _ (subscriptTail _ _ (Value.ref _) (Value.int _ _)) _ _ _) | (with_reducible show wpAny _ _ (call (Value.type "bytes") _) _ _ _) | (with_reducible show wpAny _ _ (call (Value.ref _) _) _ _ _) | (with_reducible show wpAny _ _ (compareOp _ _ (Value.ref _)) _ _ _) | ((have _ := (by with_reducible assumption : Stopper3)); (with_reducible show wpAny _ _ (execs _ _) _ _ _))); first | walk1 | (dsimp only; walk1))
  exact hret _ _ _ _ kF2 kN2
 | false =>
  repeat' first | (k_unfold; (try dsimp only)) | ((fail_if_success (with_reducible first | refine WG ?_ | refine FG ?_)); (fail_if_success first | (with_reducible show wpAny _ _ (call (Value.builtin "sorted") _) _ _ _) | (with_reducible show wpAny _ _ (subscriptTail _ _ (Value.ref _) (Value.int _ _)) _ _ _) | (with_reducible show wpAny _ _ (call (Value.type "bytes") _) _ _ _) | (with_reducible show wpAny _ _ (call (Value.ref _) _) _ _ _) | (with_reducible show wpAny _ _ (compareOp _ _ (Value.ref _)) _ _ _) | ((have _ := (by with_reducible assumption : Stopper3)); (with_reducible show wpAny _ _ (execs _ _) _ _ _))); first | walk1 | (dsimp only; walk1))
  exact hret _ _ _ _ kF2 kN2
end
section
open PySem PySem.W PyProof.Rows PySem.Calls PySem.Spec
theorem post_ok (ns : List Int) : PySem.Challenge.rw_ny0310_01.row.claim.post [ofPy (PyData.list (List.map PyData.int ns))] (WData.bool true) [ofPy (PyData.list (List.map PyData.int ns))] = true := by
 wrow_post
theorem law_tail {w : World} {mean : ExcName → Option Value} {mg mb : Str → Option Value} {h₀ : Heap} {L fa w7 : Addr} {s : Shared} {m : FMap} {nw : Ledger} {qk : Flow → Shared → Prop} {cs : List Int} {tot : Int} {n : Nat} {D Do Dn Dd : Addr} {vs yo yn : List Value} {ep eo en : Nat} {c : Nat → Option Value} {tt tn tb : Tok} {rs : Ledger} {od : Obj} {la : Int → Addr}
  (X0 : (Mine.hd.heap_39 w.params).In h₀) (T0 : Top vw loose0 mean mg mb h₀) (B0 : Below callerA h₀ [] h₀) (hn3 : 3 ≤ n) (hn : n ≤ 6) (ht0 : 0 ≤ tot) (hdm : (Dd == sysModules) = false)
  (hyo : IntsAre yo (((List.range n).map (oldN cs)).map fun (c : Nat) => (c : Int))) (hyn : IntsAre yn (((List.range n).map (newN cs)).map fun (c : Nat) => (c : Int))) (F : Fr h₀ L s.heap m) (N : News h₀ L s.heap nw)
  (P : AfterS3 w L cs tot n D Do Dn Dd vs yo yn ep eo en m nw c tt tn tb rs od la)
  (hret : ∀ h' tk', (∀ b o, h₀.get? b = some o → h'.get? b = some o) → qk (.ret (.bool true)) { s with heap := h', toks := tk' }) :
  wpAny (model PySem.Challenge.rw_ny0310_01.row.prog w) (callerA.deeper (lawE L fa w7)) (execs (lawB 9) (lawE L fa w7)) qk NoE s := by
 refine law_S4 X0 T0 B0 hn F N P fun m1 nw1 c1 tt1 tn1 tb1 rs1 Dl Du vl vd el ed h1 tk1 F1 N1 P1 => ?_
 refine law_S5 X0 T0 B0 hn hdm F1 N1 P1 fun g Y R vr er m2 nw2 rs2 h2 tk2 K2 B2 X2 T2 F2 N2 P2 => ?_
 refine law_S6 X2 T2 B2 hn3 hn hyo F2 N2 P2 fun m3 nw3 c3 rs3 h3 tk3 Dw vw' ew Da va ea Dt et rk F3 N3 P3 => ?_
 have FF : Fix ⟨w, L, cs, tot, n, Do, Dn, Dl, Du, R, Dw, Dt, yo, yn, vl, vd, eo, en, el, ed, tb1, Y⟩ := ⟨hn3, hn, ht0, hyo, hyn⟩
 refine law_S7 (f := ⟨w, L, cs, tot, n, Do, Dn, Dl, Du, R, Dw, Dt, yo, yn, vl, vd, eo, en, el, ed, tb1, Y⟩) X2 T2 B2 FF F3 N3 P3 fun t m4 nw4 c4 rs4 np4 rk4 po4 vr4 er4 wv4 ew4 vt4 et4 va4 ea4 Da4 h4 tk4 F4 N4 hf P4 => ?_
 exact law_S8 (f := ⟨w, L, cs, tot, n, Do, Dn, Dl, Du, R, Dw, Dt, yo, yn, vl, vd, eo, en, el, ed, tb1, Y⟩) X2 T2 B2 FF F4 N4 hf P4 fun m5 nw5 h5 tk5 F5 N5 => hret h5 tk5 fun b o e => F5.keep b o (K2 b o e)
end
section
open PySem PySem.W PyProof.Rows PySem.Calls
variable {w : World} {mean : ExcName → Option Value} {mg mb : Str → Option Value} {dp un : Nat} {gd : Option (List Code)} {cn : Str} {cs : Scope} {a : Addr} {ccd : Value} {cl : List (Str × Addr)} {outer : List Env} {A₀ : Around} {base h₀ : Heap} {L : Addr} {m : Str → Option Value} {news : List (Addr × Obj)} {s : Shared} {Q E : Value → Shared → Prop}
theorem law_holds : PySem.Challenge.rw_ny0310_01.Holds := by
 refine holds_law hd.said fun said => ?_
 refine holds_open (q := hd.view_39) (loose := hd.loose) (XP := XL hd.view_39 []) hd.left (Hook.of _) (Hook.keeps _) (fun s e => xl_of s (Bool.and_eq_true_iff.mp e).1) XL.keeps (by rfl) (by rfl) (by rfl) (fun s e => recFacts_of (Bool.and_eq_true_iff.mp e).2) (by rfl) said (by decide +kernel) ⟨rfl, rfl, rfl, rfl, rfl, by decide +kernel⟩ ?hw ?_
 case hw => w_witness2
 w_strict (
  k_fill
  intro w s0 s1 mg mb G Y fa o pm cd doc dV kV ho hd hcd hD hmg hg args vals as hpre hlay hrd hwl hlo
  have KX := kIn_of Y
  have X := (Ground.X G).1
  have V := (Ground.X G).2
  have GL := glob_more (Ground.glob G (by decide +kernel) (by decide +kernel)) V
  refine Ground.open G ?_
  intro T Bt D TE TW
  try (refine guard_noD D (by decide +kernel) ?_; clear D)
  refine ex2 (bmod_of_top T) fun _ _ M => ?_
  have TA := at_of_top T
  try (obtain ⟨_, _, he, B0⟩ := based_of_top T rfl hmg ho hd; have he' : cd = _ := he; subst he'; clear he)
  clear hmg
  wrow_args hpre hlay hrd hwl hlo
  all_goals (
   first | refine callC_kw (enter_call ?_) | refine enter_call ?_ | refine callC_kw (enter_callW ?_) | refine enter_callW ?_ | w_how
   w_top on
   try refine codeAny_mono ?_ (fun _ _ g => GoodW.toG g)
   have K0 := below_caller (Top.heap T)
   w_call any ho hd hcd hD T F
   clear hd TA
   k_drop
   skip)
  (all_goals try k_fold)
  skip)
 (with_reducible rename Fr _ _ _ _ => F0); (with_reducible rename News _ _ _ _ => N0)
 (with_reducible rename Below _ _ _ _ => B0)
 (with_reducible rename Top _ _ _ _ _ _ => T0)
 (with_reducible rename Frag.In _ _ => X0)
 (with_reducible rename IntsAre _ _ => hI0)
 (with_reducible rename Heap.IsList _ _ _ => hL0)
 rename_i oF oL oN oK on oT oC d1 d2 d3 d4 d5 d6 d7 d8
 rename_i w9 w8 w7 w6 ns0 hs hlay0 hLy hr1 hl2 w4 w3 sc vs0 w5 ra w1 r0 hr hc1 hc2 h1 tk1
 replace B0 : Below callerA s1.heap [] s1.heap := B0
 obtain ⟨nw0, N1, C0⟩ : ∃ nw0, News _ _ _ nw0 ∧ LF nw0 _ (fun _ => none) [] := ⟨_, N0, uniq7, fun i hi => (match i, hi with
  | 0, _ => ⟨oC, by repeat (first | exact .head _ | apply List.Mem.tail), d7⟩
  | 1, _ => ⟨oT, by repeat (first | exact .head _ | apply List.Mem.tail), d6⟩
  | 2, _ => ⟨on, by repeat (first | exact .head _ | apply List.Mem.tail), d5⟩
  | 3, _ => ⟨oK, by repeat (first | exact .head _ | apply List.Mem.tail), d4⟩
  | 4, _ => ⟨oN, by repeat (first | exact .head _ | apply List.Mem.tail), d3⟩
  | 5, _ => ⟨oL, by repeat (first | exact .head _ | apply List.Mem.tail), d2⟩
  | 6, _ => ⟨oF, by repeat (first | exact .head _ | apply List.Mem.tail), d1⟩), fun p hp => nomatch hp⟩
 clear N0 d1 d2 d3 d4 d5 d6 d7 d8
 refine wpAny_noRaise ?_
 refine oEA ((⟨_, F0, ⟨rfl⟩⟩ : ∃ m0, Fr _ _ _ m0 ∧ Has m0 (Str.ofString "script") (.ref _))) fun m0 F1 m1 => ?_
 clear F0
 clear hD hr r0 w1 ra hl2 hr1 hLy hlay0 hs hcd M TW TE Bt GL V X Y G ho
 have hlen : ns0.length ≤ 63 := by omega
 have hvl0 := hI0.length
 dsimp only
 repeat' first | (k_unfold; (try dsimp only)) | ((fail_if_success (with_reducible first | refine WG ?_ | refine FG ?_)); (fail_if_success first | (with_reducible show wpAny _ _ (setItem (Value.ref _) (Value.int _ _) _) _ _ _) | (with_reducible show wpAny _ _ (getItem (Value.ref _) (Value.int _ _)) _ _ _) | ((have _ := (by with_reducible assumption : Stopper3)); (with_reducible show wpAny _ _ (execs _ _) _ _ _)) | (with_reducible show LCg.CompSrc _ _ _ _ _ _ _ _ _ _ _ _ _ _) | (with_reducible show LCt.CompSrcT _ _ _ _ _ _ _ _ _ _ _ _ _ _ _)); first | ((with_reducible show wpAny _ _ (storeName (envOfC _ _ _ _ _) _ _) _ _ _); k_dflt refine' stF (by rfl) (by rfl) (by rfl) (by with_reducible assumption) (by k_asm) (by k_asm) (by rfl) ?_; intro _ _ _ _ _; (try dsimp only)) | ((with_reducible show wpAny _ _ (newList _) _ _ _); k_dflt refine' newList_LF (by with_reducible assumption) (by k_asm) (by k_asm) (by first | decide | (simp only [List.length_cons, List.length_nil]; omega)) ?_; intro _ _ _ _ _ _ _; (try dsimp only)) | ((with_reducible refine execs_cons_gen ?_); intro _; (try dsimp only)) | walk1 | (dsimp only; walk1))
 refine For_enter ?_
 repeat' first | (k_unfold; (try dsimp only)) | ((fail_if_success (with_reducible first | refine WG ?_ | refine FG ?_)); (fail_if_success first | (with_reducible show wpAny _ _ (setItem (Value.ref _) (Value.int _ _) _) _ _ _) | (with_reducible show wpAny _ _ (getItem (Value.ref _) (Value.int _ _)) _ _ _) | ((have _ := (by with_reducible assumption : Stopper3)); (with_reducible show wpAny _ _ (execs _ _) _ _ _)) | (with_reducible show LCg.CompSrc _ _ _ _ _ _ _ _ _ _ _ _ _ _) | (with_reducible show LCt.CompSrcT _ _ _ _ _ _ _ _ _ _ _ _ _ _ _)); first | ((with_reducible show wpAny _ _ (eval (Expr.Name _ _) (envOfC _ _ _ _ _)) _ _ _); k_dflt first | refine' nmL (by rfl) (by first | rfl | assumption) (by k_asm) (by first | exact Has.get (by with_reducible assumption) (by exact rfl) | exact rfl) ?_ | refine' nmC (by rfl) (by first | rfl | assumption) (by k_asm) (by rfl) (by k_mem) (by with_reducible assumption) ?_) | walk1 | (dsimp only; walk1))
 (with_reducible rename Fr _ _ _ _ => kF); (with_reducible rename News _ _ _ _ => kN)
 (with_reducible rename IsRange _ _ _ _ _ _ _ _ => hr)
 (with_reducible rename LF _ _ _ [_] => C1)
 clear C0 N1 F1
 obtain ⟨n18, hn18, hn18a⟩ : ∃ n18 : Nat, (if (18 : Int) < (ns0.length : Int) then 18 else (ns0.length : Int)) = (n18 : Int) ∧ n18 ≤ ns0.length ∧ n18 ≤ 18 := by
  split
  ·exact ⟨18, rfl, by omega, by omega⟩
  ·exact ⟨ns0.length, rfl, by omega, by omega⟩
 refine letX3_7_9io (fun (i : Nat) m₁ nw => ∃ D vs ep cs tot tt c, LF nw s1.heap.objs.size c [(D, listOf (List.toArray vs) ep)] ∧ CV c 0 (.ref D) ∧ CV c 1 (.int tot tt) ∧ IntsAre vs cs ∧ cs.length = 6 ∧ (∀ x ∈ cs, 0 ≤ x ∧ x ≤ 37709824 + (i : Int) * 1000000000000000) ∧ 0 ≤ tot ∧ tot ≤ (i : Int) * 1000000000000000 ∧ Has m₁ (Str.ofString "script") (.ref sc) : Nat → FMap → Ledger → Prop) (fun _ _ _ => .rfl) fun J hJi hJo => ?_
 refine ForAt_range (s := ⟨_, _, _, _, _⟩) (n := n18) J (by rfl) hr hn18 (by omega) kF kN ?_ ?_ ?_
 ·refine hJi _ _ _ _ _ _ ([37709824, 3168852, 465729, 263167, 1820872, 913425]) (0) _ _ (C1) (⟨rfl⟩) (⟨rfl⟩) ?_ (rfl) ?_ (by decide) (by decide) (m1)
  ·exact .cons _ _ (.cons _ _ (.cons _ _ (.cons _ _ (.cons _ _ (.cons _ _ .nil)))))
  ·intro x hx
   simp at hx
   omega
 ·intro i t m₁ nw h₁ tk₁ I' it hi hj hne F₁ N₁
  refine hJo _ _ _ hj _ fun D vs ep cs tot tt c C c0 c1 hvI hcl hcb ht0 ht1 k1 => ?_
  clear hj
  clear kF kN C1 m1
  have C2 := C.cons (o := it) hne
  have hDI : D ≠ I' := hne _ (C.rst _ (.head _)).1
  clear C
  generalize hnw : (I', it) :: nw = nw2 at N₁ C2
  have hmD := (C2.rst _ (.tail _ (.head _))).1
  have hi2 : (i : Int) < ns0.length := by omega
  repeat' first | (k_unfold; (try dsimp only)) | ((fail_if_success (with_reducible first | refine WG ?_ | refine FG ?_)); (fail_if_success first | (with_reducible show wpAny _ _ (setItem (Value.ref _) (Value.int _ _) _) _ _ _) | (with_reducible show wpAny _ _ (getItem (Value.ref _) (Value.int _ _)) _ _ _) | ((have _ := (by with_reducible assumption : Stopper3)); (with_reducible show wpAny _ _ (execs _ _) _ _ _)) | (with_reducible show LCg.CompSrc _ _ _ _ _ _ _ _ _ _ _ _ _ _) | (with_reducible show LCt.CompSrcT _ _ _ _ _ _ _ _ _ _ _ _ _ _ _)); first | ((with_reducible show wpAny _ _ (eval (Expr.Name _ _) (envOfC _ _ _ _ _)) _ _ _); k_dflt refine' rdF (by rfl) (by rfl) (by rfl) (by with_reducible assumption) (by k_asm) (by rfl) (by first | exact rfl | exact CV.get (by with_reducible assumption) (by exact rfl)) ?_) | ((with_reducible show wpAny _ _ (eval (Expr.Name _ _) (envOfC _ _ _ _ _)) _ _ _); k_dflt first | refine' nmL (by rfl) (by first | rfl | assumption) (by k_asm) (by first | exact Has.get (by with_reducible assumption) (by exact rfl) | exact rfl) ?_ | refine' nmC (by rfl) (by first | rfl | assumption) (by k_asm) (by rfl) (by k_mem) (by with_reducible assumption) ?_) | ((with_reducible refine execs_cons_gen ?_); intro _; (try dsimp only)) | walk1 | (dsimp only; walk1))
  (with_reducible rename Fr _ _ _ _ => kF); (with_reducible rename News _ _ _ _ => kN)
  have hj6 : ((i : Int).fmod 6) = ((i % 6 : Nat) : Int) := by rw [Int.fmod_eq_emod_of_nonneg _ (by decide)]; omega
  rw [hj6]
  refine ksa_get kN hmD hvI (by omega) (by rw [hcl]; omega) (by omega) ?_
  intro t9
  dsimp only
  repeat' first | (k_unfold; (try dsimp only)) | ((fail_if_success (with_reducible first | refine WG ?_ | refine FG ?_)); (fail_if_success first | (with_reducible show wpAny _ _ (setItem (Value.ref _) (Value.int _ _) _) _ _ _) | (with_reducible show wpAny _ _ (getItem (Value.ref _) (Value.int _ _)) _ _ _) | ((have _ := (by with_reducible assumption : Stopper3)); (with_reducible show wpAny _ _ (execs _ _) _ _ _)) | (with_reducible show LCg.CompSrc _ _ _ _ _ _ _ _ _ _ _ _ _ _) | (with_reducible show LCt.CompSrcT _ _ _ _ _ _ _ _ _ _ _ _ _ _ _)); first | ((with_reducible show wpAny _ _ (eval (Expr.Name _ _) (envOfC _ _ _ _ _)) _ _ _); k_dflt first | refine' nmL (by rfl) (by first | rfl | assumption) (by k_asm) (by first | exact Has.get (by with_reducible assumption) (by exact rfl) | exact rfl) ?_ | refine' nmC (by rfl) (by first | rfl | assumption) (by k_asm) (by rfl) (by k_mem) (by with_reducible assumption) ?_) | walk1 | (dsimp only; walk1))
  refine ksa_set kF kN (upd_uniq C2.uniq hmD) hvI (by omega) (by rw [hcl]; omega) (by omega) ?_
  intro h3 F3 N3 hI3 hl3 _
  have hfm0 : 0 ≤ (ns0.getD (i : Int).toNat 0).fmod 1000000000000000 := Int.fmod_nonneg_of_pos _ (by decide)
  have hfm1 : (ns0.getD (i : Int).toNat 0).fmod 1000000000000000 < 1000000000000000 := Int.fmod_lt_of_pos _ (by decide)
  obtain ⟨nw3, vs3, cs3, N4, C3, hI4, hl4, hb4⟩ : ∃ nw3 vs3 cs3, News s1.heap s1.heap.objs.size h3 nw3 ∧ LF nw3 s1.heap.objs.size c [(I', it), (D, listOf (List.toArray vs3) ep)] ∧ IntsAre vs3 cs3 ∧ cs3.length = 6 ∧ ∀ x ∈ cs3, 0 ≤ x ∧ x ≤ 37709824 + ((i + 1 : Nat) : Int) * 1000000000000000 :=
   ⟨_, _, _, N3, C2.set2 hDI, hI3, hl3.trans hcl, bound_set hcl (by omega) hcb hfm0 hfm1⟩
  clear kF kN C2 hmD N3 hI3 hl3
  dsimp only
  repeat' first | (k_unfold; (try dsimp only)) | ((fail_if_success (with_reducible first | refine WG ?_ | refine FG ?_)); (fail_if_success first | (with_reducible show wpAny _ _ (setItem (Value.ref _) (Value.int _ _) _) _ _ _) | (with_reducible show wpAny _ _ (getItem (Value.ref _) (Value.int _ _)) _ _ _) | ((have _ := (by with_reducible assumption : Stopper3)); (with_reducible show wpAny _ _ (execs _ _) _ _ _)) | (with_reducible show LCg.CompSrc _ _ _ _ _ _ _ _ _ _ _ _ _ _) | (with_reducible show LCt.CompSrcT _ _ _ _ _ _ _ _ _ _ _ _ _ _ _)); first | ((with_reducible show wpAny _ _ (storeName (envOfC _ _ _ _ _) _ _) _ _ _); k_dflt refine' stF (by rfl) (by rfl) (by rfl) (by with_reducible assumption) (by k_asm) (by k_asm) (by rfl) ?_; intro _ _ _ _ _; (try dsimp only)) | ((with_reducible show wpAny _ _ (loadName (envOfC _ _ _ _ _) _) _ _ _); k_dflt refine' loF (by rfl) (by rfl) (by rfl) (by with_reducible assumption) (by k_asm) (by rfl) (by first | exact rfl | exact CV.get (by with_reducible assumption) (by exact rfl)) ?_) | ((with_reducible show wpAny _ _ (eval (Expr.Name _ _) (envOfC _ _ _ _ _)) _ _ _); k_dflt first | refine' nmL (by rfl) (by first | rfl | assumption) (by k_asm) (by first | exact Has.get (by with_reducible assumption) (by exact rfl) | exact rfl) ?_ | refine' nmC (by rfl) (by first | rfl | assumption) (by k_asm) (by rfl) (by k_mem) (by with_reducible assumption) ?_) | ((with_reducible refine execs_cons_gen ?_); intro _; (try dsimp only)) | ((with_reducible refine execs_nil_gen ?_); intro _; (try dsimp only)) | walk1 | (dsimp only; walk1))
  (with_reducible rename Fr _ _ _ _ => kF); (with_reducible rename News _ _ _ _ => kN)
  (with_reducible rename LF _ _ _ _ => C4)
  refine FPost.next kF (news_drop kN (C4.rst _ (.head _)).1) dropA_ne ?_
  refine hJi _ _ _ (D) (vs3) (ep) (cs3) _ _ _ (C4.drop (fun p hp => by rw [List.mem_singleton.mp hp]; exact hDI)) (⟨c0.out⟩) (⟨rfl⟩) (hI4) (hl4) (hb4) ?_ ?_ (⟨k1.out⟩)
  ·omega
  ·omega
 ·intro m₁ nw h₁ tk₁ hj F₁ N₁
  refine hJo _ _ _ hj _ fun D vs ep cs tot tt c C c0 c1 hvI hcl hcb ht0 ht1 k1 => ?_
  clear hj
  clear kF kN C1 m1
  replace F₁ : Fr s1.heap s1.heap.objs.size h₁ m₁ := F₁
  replace N₁ : News s1.heap s1.heap.objs.size h₁ nw := N₁
  have hf4a : 0 ≤ tot.fmod 4 := Int.fmod_nonneg_of_pos _ (by decide)
  have hf4b : tot.fmod 4 < 4 := Int.fmod_lt_of_pos _ (by decide)
  refine oEAA ((⟨(3 + tot.fmod 4).toNat, by omega, by omega, by omega⟩ : ∃ n : Nat, 3 + tot.fmod 4 = (n : Int) ∧ 3 ≤ n ∧ n ≤ 6)) fun n hn hn3 hn6 => ?_
  have st3 : Stopper3 := trivial
  dsimp only
  repeat' first | (k_unfold; (try dsimp only)) | ((fail_if_success (with_reducible first | refine WG ?_ | refine FG ?_)); (fail_if_success first | (with_reducible show wpAny _ _ (setItem (Value.ref _) (Value.int _ _) _) _ _ _) | (with_reducible show wpAny _ _ (getItem (Value.ref _) (Value.int _ _)) _ _ _) | ((have _ := (by with_reducible assumption : Stopper3)); (with_reducible show wpAny _ _ (execs _ _) _ _ _)) | (with_reducible show LCg.CompSrc _ _ _ _ _ _ _ _ _ _ _ _ _ _) | (with_reducible show LCt.CompSrcT _ _ _ _ _ _ _ _ _ _ _ _ _ _ _)); first | walk1 | (dsimp only; walk1))
  first | ((with_reducible refine execs_nil_gen ?_); intro _; (try dsimp only)) | walk1
  repeat' first | (k_unfold; (try dsimp only)) | ((fail_if_success (with_reducible first | refine WG ?_ | refine FG ?_)); (fail_if_success first | (with_reducible show wpAny _ _ (setItem (Value.ref _) (Value.int _ _) _) _ _ _) | (with_reducible show wpAny _ _ (getItem (Value.ref _) (Value.int _ _)) _ _ _) | ((have _ := (by with_reducible assumption : Stopper3)); (with_reducible show wpAny _ _ (execs _ _) _ _ _)) | (with_reducible show LCg.CompSrc _ _ _ _ _ _ _ _ _ _ _ _ _ _) | (with_reducible show LCt.CompSrcT _ _ _ _ _ _ _ _ _ _ _ _ _ _ _)); first | walk1 | (dsimp only; walk1))
  first | ((with_reducible refine execs_cons_gen ?_); intro _; (try dsimp only)) | walk1
  repeat' first | (k_unfold; (try dsimp only)) | ((fail_if_success (with_reducible first | refine WG ?_ | refine FG ?_)); (fail_if_success first | (with_reducible show wpAny _ _ (setItem (Value.ref _) (Value.int _ _) _) _ _ _) | (with_reducible show wpAny _ _ (getItem (Value.ref _) (Value.int _ _)) _ _ _) | ((have _ := (by with_reducible assumption : Stopper3)); (with_reducible show wpAny _ _ (execs _ _) _ _ _)) | (with_reducible show LCg.CompSrc _ _ _ _ _ _ _ _ _ _ _ _ _ _) | (with_reducible show LCt.CompSrcT _ _ _ _ _ _ _ _ _ _ _ _ _ _ _)); first | ((with_reducible show wpAny _ _ (eval (Expr.Name _ _) (envOfC _ _ _ _ _)) _ _ _); k_dflt refine' rdF (by rfl) (by rfl) (by rfl) (by with_reducible assumption) (by k_asm) (by rfl) (by first | exact rfl | exact CV.get (by with_reducible assumption) (by exact rfl)) ?_) | ((with_reducible show wpAny _ _ (storeName (envOfC _ _ _ _ _) _ _) _ _ _); k_dflt refine' stF (by rfl) (by rfl) (by rfl) (by with_reducible assumption) (by k_asm) (by k_asm) (by rfl) ?_; intro _ _ _ _ _; (try dsimp only)) | walk1 | (dsimp only; walk1))
  first | ((with_reducible refine execs_cons_gen ?_); intro _; (try dsimp only)) | walk1
  repeat' first | (k_unfold; (try dsimp only)) | ((fail_if_success (with_reducible first | refine WG ?_ | refine FG ?_)); (fail_if_success first | (with_reducible show wpAny _ _ (setItem (Value.ref _) (Value.int _ _) _) _ _ _) | (with_reducible show wpAny _ _ (getItem (Value.ref _) (Value.int _ _)) _ _ _) | ((have _ := (by with_reducible assumption : Stopper3)); (with_reducible show wpAny _ _ (execs _ _) _ _ _)) | (with_reducible show LCg.CompSrc _ _ _ _ _ _ _ _ _ _ _ _ _ _) | (with_reducible show LCt.CompSrcT _ _ _ _ _ _ _ _ _ _ _ _ _ _ _)); first | ((with_reducible show wpAny _ _ (eval (Expr.Name _ _) (envOfC _ _ _ _ _)) _ _ _); k_dflt refine' rdF (by rfl) (by rfl) (by rfl) (by with_reducible assumption) (by k_asm) (by rfl) (by first | exact rfl | exact CV.get (by with_reducible assumption) (by exact rfl)) ?_) | walk1 | (dsimp only; walk1))
  (with_reducible rename Fr _ _ _ _ => kF); (with_reducible rename News _ _ _ _ => kN)
  (with_reducible rename LF _ _ _ _ => C2)
  rw [hn] at C2
  refine execs_cut (fun m₂ nw => ∃ c tn tb, LF nw s1.heap.objs.size c [(D, listOf vs.toArray ep)] ∧ CV c 0 (.ref D) ∧ CV c 1 (.int tot tt) ∧ CV c 2 (.int (n : Nat) tn) ∧ Has m₂ (Str.ofString "script") (.ref sc) ∧ Has m₂ (Str.ofString "bound") (.int (4 + tot) tb)) kF kN ⟨_, _, _, C2, ⟨c0.out⟩, ⟨c1.out⟩, ⟨rfl⟩, ⟨k1.out⟩, ⟨rfl⟩⟩ ?_
  clear kF kN C2 c0 c1 k1
  intro m₂ nw2 h₂ tk₂ kF kN hp
  refine oEEEAAAAA (hp) fun c tn tb C2 c0 c1 c2 k1 k2 => ?_
  try clear hp
  first | ((with_reducible refine execs_cons_gen ?_); intro _; (try dsimp only)) | walk1
  repeat' first | (k_unfold; (try dsimp only)) | ((fail_if_success (with_reducible first | refine WG ?_ | refine FG ?_)); (fail_if_success first | (with_reducible show wpAny _ _ (setItem (Value.ref _) (Value.int _ _) _) _ _ _) | (with_reducible show wpAny _ _ (getItem (Value.ref _) (Value.int _ _)) _ _ _) | ((have _ := (by with_reducible assumption : Stopper3)); (with_reducible show wpAny _ _ (execs _ _) _ _ _)) | (with_reducible show LCg.CompSrc _ _ _ _ _ _ _ _ _ _ _ _ _ _) | (with_reducible show LCt.CompSrcT _ _ _ _ _ _ _ _ _ _ _ _ _ _ _)); first | ((with_reducible show wpAny _ _ (eval (Expr.Name _ _) (envOfC _ _ _ _ _)) _ _ _); k_dflt refine' rdF (by rfl) (by rfl) (by rfl) (by with_reducible assumption) (by k_asm) (by rfl) (by first | exact rfl | exact CV.get (by with_reducible assumption) (by exact rfl)) ?_) | ((with_reducible show wpAny _ _ (exec (Stmt.Assign _ (Expr.ListComp _ _ _ _) _) _) _ _ _); k_dflt (refine' LCg.Assign_ListComp_U (by k_asm) (by rfl) (by with_unfolding_all rfl) (by with_unfolding_all rfl) (by decide) (by rfl) (by decide) (by rfl) (by rfl) (by rfl) ?_ (by intro _; rfl))) | walk1 | (dsimp only; walk1))
  (with_reducible rename Fr _ _ _ _ => kF); (with_reducible rename News _ _ _ _ => kN)
  (with_reducible rename IsRange _ _ _ _ _ _ _ _ => hr2)
  refine LCg.CompSrc.range rfl kF kN hr2 (rsmall rfl (by omega)) (rsize rfl) (by rw [sizeLine_eq]; omega) ?_
  intro g9
  clear kF kN
  refine oEA (C2.cell 0 (by decide)) fun o0 ho0 hd0 => ?_
  rw [c0.out] at hd0
  have hmD := (C2.rst _ (.head _)).1
  refine letX3_0_2eio (fun i ys nw' => nw' = nw2 ∧ IntsAre ys ((List.range i).map fun k => ((oldN cs k : Nat) : Int)) : Nat → List Value → Ledger → Prop) (fun _ _ _ => .rfl) fun J3 hJ3 hJ3i hJ3o => ?_
  refine rest_inv J3 ?_ ?_ _ 0 [] _ (Nat.zero_add _) (by exact hJ3i _ _ _ (rfl) (.nil))
  ·intro i ys nw hi hj v I1 oI C1 oC D1 m₃ h3 tk3 E3 hPv hNs hmx F3 N3 off hne
   refine hJ3o _ _ _ hj _ fun ej1 hys => ?_
   clear hj
   subst ej1
   refine ex1 (hPv) fun tv er1 => ?_
   try clear hPv
   subst er1
   rw [Int.zero_add] at hmx
   have hC3 : (C1, oC) ∈ (I1, oI) :: (C1, oC) :: (D1, LCg.lst ys) :: nw := .tail _ (.head _)
   have hc3 : (s1.heap.objs.size + 1, o0) ∈ (I1, oI) :: (C1, oC) :: (D1, LCg.lst ys) :: nw := .tail _ (.tail _ (.tail _ ho0))
   have hD3 : (D, listOf vs.toArray ep) ∈ (I1, oI) :: (C1, oC) :: (D1, LCg.lst ys) :: nw := .tail _ (.tail _ (.tail _ hmD))
   generalize hn3 : (I1, oI) :: (C1, oC) :: (D1, LCg.lst ys) :: nw = nw3 at N3 hC3 hc3 hD3
   repeat' first | (k_unfold; (try dsimp only)) | ((fail_if_success (with_reducible first | refine WG ?_ | refine FG ?_)); (fail_if_success first | (with_reducible show wpAny _ _ (setItem (Value.ref _) (Value.int _ _) _) _ _ _) | (with_reducible show wpAny _ _ (getItem (Value.ref _) (Value.int _ _)) _ _ _) | ((have _ := (by with_reducible assumption : Stopper3)); (with_reducible show wpAny _ _ (execs _ _) _ _ _)) | (with_reducible show LCg.CompSrc _ _ _ _ _ _ _ _ _ _ _ _ _ _) | (with_reducible show LCt.CompSrcT _ _ _ _ _ _ _ _ _ _ _ _ _ _ _)); first | walk1 | (dsimp only; walk1))
   refine LCg.CompEnd.intro F3 N3 nw (by rw [← hn3]; exact fun p hp => hp) off trivial ?_
   rw [hJ3]
   dsimp only
   rw [range_snoc, oldN_eq]
   exact ⟨rfl, hys.append (.cons _ _ .nil)⟩
  ·intro ys nw hj
   refine hJ3o _ _ _ hj _ fun ej2 hys => ?_
   clear hj
   subst ej2
   intro Do h4 tk4 F4 N4 o1
   replace N4 : News s1.heap s1.heap.objs.size h4 ((Do, listOf ys.toArray ys.length) :: nw) := N4
   have C3 := C2.cons (o := listOf ys.toArray ys.length) (off1_ne o1)
   dsimp only
   refine execs_cut (fun m₂ nw => ∃ c tn tb ys es, LF nw s1.heap.objs.size c [(Do, listOf (List.toArray ys) es), (D, listOf vs.toArray ep)] ∧ CV c 0 (.ref D) ∧ CV c 1 (.int tot tt) ∧ CV c 2 (.int (n : Nat) tn) ∧ Has m₂ (Str.ofString "old") (.ref Do) ∧ Has m₂ (Str.ofString "bound") (.int (4 + tot) tb) ∧ IntsAre ys ((List.range n).map fun k => ((oldN cs k : Nat) : Int))) F4 N4 ⟨_, _, _, _, _, C3, c0, c1, c2, ⟨rfl⟩, ⟨k2.out⟩, hys⟩ ?_
   clear F4 N4 C3 C2 c0 c1 c2 k1 k2 hys ho0 hd0 hmD hr2
   intro m₂ nw2 h₂ tk₂ kF kN hp
   refine oEEEEEAAAAAA (hp) fun c tn tb yo eo C2 c0 c1 c2 k1 k2 hyo => ?_
   try clear hp
   first | ((with_reducible refine execs_cons_gen ?_); intro _; (try dsimp only)) | walk1
   repeat' first | (k_unfold; (try dsimp only)) | ((fail_if_success (with_reducible first | refine WG ?_ | refine FG ?_)); (fail_if_success first | (with_reducible show wpAny _ _ (setItem (Value.ref _) (Value.int _ _) _) _ _ _) | (with_reducible show wpAny _ _ (getItem (Value.ref _) (Value.int _ _)) _ _ _) | ((have _ := (by with_reducible assumption : Stopper3)); (with_reducible show wpAny _ _ (execs _ _) _ _ _)) | (with_reducible show LCg.CompSrc _ _ _ _ _ _ _ _ _ _ _ _ _ _) | (with_reducible show LCt.CompSrcT _ _ _ _ _ _ _ _ _ _ _ _ _ _ _)); first | ((with_reducible show wpAny _ _ (eval (Expr.Name _ _) (envOfC _ _ _ _ _)) _ _ _); k_dflt refine' rdF (by rfl) (by rfl) (by rfl) (by with_reducible assumption) (by k_asm) (by rfl) (by first | exact rfl | exact CV.get (by with_reducible assumption) (by exact rfl)) ?_) | ((with_reducible show wpAny _ _ (exec (Stmt.Assign _ (Expr.ListComp _ _ _ _) _) _) _ _ _); k_dflt (refine' LCg.Assign_ListComp_U (by k_asm) (by rfl) (by with_unfolding_all rfl) (by with_unfolding_all rfl) (by decide) (by rfl) (by decide) (by rfl) (by rfl) (by rfl) ?_ (by intro _; rfl))) | walk1 | (dsimp only; walk1))
   (with_reducible rename Fr _ _ _ _ => kF); (with_reducible rename News _ _ _ _ => kN)
   (with_reducible rename IsRange _ _ _ _ _ _ _ _ => hr2)
   refine LCg.CompSrc.range rfl kF kN hr2 (rsmall rfl (by omega)) (rsize rfl) (by rw [sizeLine_eq]; omega) ?_
   intro g9
   clear kF kN
   refine oEA (C2.cell 0 (by decide)) fun o0 ho0 hd0 => ?_
   rw [c0.out] at hd0
   have hmD := (C2.rst _ (.tail _ (.head _))).1
   refine letX3_0_2eio (fun i ys nw' => nw' = nw2 ∧ IntsAre ys ((List.range i).map fun k => ((newN cs k : Nat) : Int)) : Nat → List Value → Ledger → Prop) (fun _ _ _ => .rfl) fun J4 hJ4 hJ4i hJ4o => ?_
   refine rest_inv J4 ?_ ?_ _ 0 [] _ (Nat.zero_add _) (by exact hJ4i _ _ _ (rfl) (.nil))
   ·intro i ys nw hi hj v I1 oI C1 oC D1 m₃ h3 tk3 E3 hPv hNs hmx F3 N3 off hne
    refine hJ4o _ _ _ hj _ fun ej3 hys => ?_
    clear hj
    subst ej3
    refine ex1 (hPv) fun tv er2 => ?_
    try clear hPv
    subst er2
    rw [Int.zero_add] at hmx
    have hC3 : (C1, oC) ∈ (I1, oI) :: (C1, oC) :: (D1, LCg.lst ys) :: nw := .tail _ (.head _)
    have hc3 : (s1.heap.objs.size + 1, o0) ∈ (I1, oI) :: (C1, oC) :: (D1, LCg.lst ys) :: nw := .tail _ (.tail _ (.tail _ ho0))
    have hD3 : (D, listOf vs.toArray ep) ∈ (I1, oI) :: (C1, oC) :: (D1, LCg.lst ys) :: nw := .tail _ (.tail _ (.tail _ hmD))
    generalize hn3 : (I1, oI) :: (C1, oC) :: (D1, LCg.lst ys) :: nw = nw3 at N3 hC3 hc3 hD3
    repeat' first | (k_unfold; (try dsimp only)) | ((fail_if_success (with_reducible first | refine WG ?_ | refine FG ?_)); (fail_if_success first | (with_reducible show wpAny _ _ (setItem (Value.ref _) (Value.int _ _) _) _ _ _) | (with_reducible show wpAny _ _ (getItem (Value.ref _) (Value.int _ _)) _ _ _) | ((have _ := (by with_reducible assumption : Stopper3)); (with_reducible show wpAny _ _ (execs _ _) _ _ _)) | (with_reducible show LCg.CompSrc _ _ _ _ _ _ _ _ _ _ _ _ _ _) | (with_reducible show LCt.CompSrcT _ _ _ _ _ _ _ _ _ _ _ _ _ _ _)); first | walk1 | (dsimp only; walk1))
    refine LCg.CompEnd.intro F3 N3 nw (by rw [← hn3]; exact fun p hp => hp) off trivial ?_
    rw [hJ4]
    dsimp only
    rw [range_snoc, newN_eq]
    exact ⟨rfl, hys.append (.cons _ _ .nil)⟩
   ·intro ys nw hj
    refine hJ4o _ _ _ hj _ fun ej4 hys => ?_
    clear hj
    subst ej4
    intro Dn h4 tk4 F4 N4 o1
    replace N4 : News s1.heap s1.heap.objs.size h4 ((Dn, listOf ys.toArray ys.length) :: nw) := N4
    have C3 := C2.cons (o := listOf ys.toArray ys.length) (off1_ne o1)
    dsimp only
    refine execs_cut (fun m₂ nw => ∃ c tt tn tb yo eo yn en vs ep, LF nw s1.heap.objs.size c [(Dn, listOf (List.toArray yn) en), (Do, listOf (List.toArray yo) eo), (D, listOf (List.toArray vs) ep)] ∧ CV c 0 (.ref D) ∧ CV c 1 (.int tot tt) ∧ CV c 2 (.int (n : Nat) tn) ∧ Has m₂ (Str.ofString "old") (.ref Do) ∧ Has m₂ (Str.ofString "new") (.ref Dn) ∧ Has m₂ (Str.ofString "bound") (.int (4 + tot) tb) ∧ IntsAre yo ((List.range n).map fun k => ((oldN cs k : Nat) : Int)) ∧ IntsAre yn ((List.range n).map fun k => ((newN cs k : Nat) : Int)) ∧ IntsAre vs cs) F4 N4 ⟨_, _, _, _, _, _, _, _, _, _, C3, c0, c1, c2, ⟨k1.out⟩, ⟨rfl⟩, ⟨k2.out⟩, hyo, hys, hvI⟩ ?_
    clear F4 N4 C3 C2 c0 c1 c2 k1 k2 hys ho0 hd0 hmD hr2 hyo
    intro m₂ nw2 h₂ tk₂ kF kN hp
    clear hvI
    refine oEEEEEEEEEEAAAAAAAAA (hp) fun c tt tn tb yo eo yn en vs ep C2 c0 c1 c2 k1 k2 k3 hyo hyn hvI => ?_
    try clear hp
    first | ((with_reducible refine execs_cons_gen ?_); intro _; (try dsimp only)) | walk1
    repeat' first | (k_unfold; (try dsimp only)) | ((fail_if_success (with_reducible first | refine WG ?_ | refine FG ?_)); (fail_if_success first | (with_reducible show wpAny _ _ (setItem (Value.ref _) (Value.int _ _) _) _ _ _) | (with_reducible show wpAny _ _ (getItem (Value.ref _) (Value.int _ _)) _ _ _) | ((have _ := (by with_reducible assumption : Stopper3)); (with_reducible show wpAny _ _ (execs _ _) _ _ _)) | (with_reducible show LCg.CompSrc _ _ _ _ _ _ _ _ _ _ _ _ _ _) | (with_reducible show LCt.CompSrcT _ _ _ _ _ _ _ _ _ _ _ _ _ _ _)); first | walk1 | (dsimp only; walk1))
    (with_reducible rename Fr _ _ _ _ => kF); (with_reducible rename News _ _ _ _ => kN)
    rename_i Dd _ od l1 lo' _ _ hid _
    have C3 := C2.cons (o := od) (fun p hp => Nat.ne_of_lt (l1 p hp))
    clear C2
    repeat' first | (k_unfold; (try dsimp only)) | ((fail_if_success (with_reducible first | refine WG ?_ | refine FG ?_)); (fail_if_success first | (with_reducible show wpAny _ _ (setItem (Value.ref _) (Value.int _ _) _) _ _ _) | (with_reducible show wpAny _ _ (getItem (Value.ref _) (Value.int _ _)) _ _ _) | ((have _ := (by with_reducible assumption : Stopper3)); (with_reducible show wpAny _ _ (execs _ _) _ _ _)) | (with_reducible show LCg.CompSrc _ _ _ _ _ _ _ _ _ _ _ _ _ _) | (with_reducible show LCt.CompSrcT _ _ _ _ _ _ _ _ _ _ _ _ _ _ _)); first | ((with_reducible show wpAny _ _ (storeName (envOfC _ _ _ _ _) _ _) _ _ _); k_dflt refine' stF (by rfl) (by rfl) (by rfl) (by with_reducible assumption) (by k_asm) (by k_asm) (by rfl) ?_; intro _ _ _ _ _; (try dsimp only)) | walk1 | (dsimp only; walk1))
    (with_reducible rename Fr _ _ _ _ => kF); (with_reducible rename News _ _ _ _ => kN)
    (with_reducible rename LF _ _ _ _ => C4)
    refine execs_cut (fun m₂ nw => ∃ c tt tn tb, LF nw s1.heap.objs.size c [(Dd, od), (Dn, listOf yn.toArray en), (Do, listOf yo.toArray eo), (D, listOf vs.toArray ep)] ∧ CV c 0 (.ref D) ∧ CV c 1 (.int tot tt) ∧ CV c 2 (.int (n : Nat) tn) ∧ CV c 4 (.ref Dd) ∧ Has m₂ (Str.ofString "old") (.ref Do) ∧ Has m₂ (Str.ofString "new") (.ref Dn) ∧ Has m₂ (Str.ofString "bound") (.int (4 + tot) tb)) kF kN ⟨_, _, _, _, C4, ⟨c0.out⟩, ⟨c1.out⟩, ⟨c2.out⟩, ⟨rfl⟩, k1, k2, k3⟩ ?_
    clear kF kN C3 C4 c0 c1 c2 k1 k2 k3
    intro m₂ nw2 h₂ tk₂ kF kN hp
    refine oEEEEAAAAAAA (hp) fun c tt tn tb C2 c0 c1 c2 c4 k1 k2 k3 => ?_
    try clear hp
    first | ((with_reducible refine execs_cons_gen ?_); intro _; (try dsimp only)) | walk1
    refine For_enter ?_
    repeat' first | (k_unfold; (try dsimp only)) | ((fail_if_success (with_reducible first | refine WG ?_ | refine FG ?_)); (fail_if_success first | (with_reducible show wpAny _ _ (setItem (Value.ref _) (Value.int _ _) _) _ _ _) | (with_reducible show wpAny _ _ (getItem (Value.ref _) (Value.int _ _)) _ _ _) | ((have _ := (by with_reducible assumption : Stopper3)); (with_reducible show wpAny _ _ (execs _ _) _ _ _)) | (with_reducible show LCg.CompSrc _ _ _ _ _ _ _ _ _ _ _ _ _ _) | (with_reducible show LCt.CompSrcT _ _ _ _ _ _ _ _ _ _ _ _ _ _ _)); first | ((with_reducible show wpAny _ _ (eval (Expr.Name _ _) (envOfC _ _ _ _ _)) _ _ _); k_dflt refine' rdF (by rfl) (by rfl) (by rfl) (by with_reducible assumption) (by k_asm) (by rfl) (by first | exact rfl | exact CV.get (by with_reducible assumption) (by exact rfl)) ?_) | walk1 | (dsimp only; walk1))
    (with_reducible rename Fr _ _ _ _ => kF); (with_reducible rename News _ _ _ _ => kN)
    (with_reducible rename IsRange _ _ _ _ _ _ _ _ => hr2)
    refine letX3_7_14eio (fun (i : Nat) m₁ nw => ∃ (c : Nat → Option Value) (tt tn tb : Tok) (rs : Ledger) (od : Obj) (la : Int → Addr), LF nw s1.heap.objs.size c rs ∧ CV c 0 (.ref D) ∧ CV c 1 (.int tot tt) ∧ CV c 2 (.int (n : Nat) tn) ∧ CV c 4 (.ref Dd) ∧ Has m₁ (Str.ofString "old") (.ref Do) ∧ Has m₁ (Str.ofString "new") (.ref Dn) ∧ Has m₁ (Str.ofString "bound") (.int (4 + tot) tb) ∧ (D, listOf vs.toArray ep) ∈ rs ∧ (Do, listOf yo.toArray eo) ∈ rs ∧ (Dn, listOf yn.toArray en) ∈ rs ∧ (Dd, od) ∈ rs ∧ od.IsDictOf (intKind prg w) ((rng i).map fun k => (k, Value.ref (la k))) ∧ ∀ k ∈ rng i, ∃ us es, (la k, listOf (List.toArray us) es) ∈ rs ∧ IntsAre us (needF cs tot n k) : Nat → FMap → Ledger → Prop) (fun _ _ _ => .rfl) fun J5 hJ5 hJ5i hJ5o => ?_
    refine ForAt_range (s := ⟨_, _, _, _, _⟩) (n := n) J5 (by rfl) hr2 rfl (by omega) kF kN ?_ ?_ ?_
    ·exact hJ5i _ _ _ _ _ _ _ _ (od) (fun _ => 0) (C2) (c0) (c1) (c2) (c4) (k1) (k2) (k3) (.tail _ (.tail _ (.tail _ (.head _)))) (.tail _ (.tail _ (.head _))) (.tail _ (.head _)) (.head _) (hid) (fun k hk => (by cases hk))
    ·intro i t m₁ nw h₁ tk₁ I' it hi hj hne F₁ N₁
     refine hJ5o _ _ _ hj _ fun c tt tn tb rs od la C c0 c1 c2 c4 k1 k2 k3 r1 r2 r3 r4 hdd hla => ?_
     clear hj
     replace F₁ : Fr s1.heap s1.heap.objs.size h₁ m₁ := F₁
     replace N₁ : News s1.heap s1.heap.objs.size h₁ ((I', it) :: nw) := N₁
     have C5 := C.cons (o := it) hne
     have hrI : ∀ p ∈ rs, p.1 ≠ I' := fun p hp => hne p (C.rst p hp).1
     clear C C2 kF kN
     generalize hnw : (I', it) :: nw = nw5 at N₁ C5
     repeat' first | (k_unfold; (try dsimp only)) | ((fail_if_success (with_reducible first | refine WG ?_ | refine FG ?_)); (fail_if_success first | (with_reducible show wpAny _ _ (setItem (Value.ref _) (Value.int _ _) _) _ _ _) | (with_reducible show wpAny _ _ (getItem (Value.ref _) (Value.int _ _)) _ _ _) | ((have _ := (by with_reducible assumption : Stopper3)); (with_reducible show wpAny _ _ (execs _ _) _ _ _)) | (with_reducible show LCg.CompSrc _ _ _ _ _ _ _ _ _ _ _ _ _ _) | (with_reducible show LCt.CompSrcT _ _ _ _ _ _ _ _ _ _ _ _ _ _ _)); first | ((with_reducible show wpAny _ _ (storeName (envOfC _ _ _ _ _) _ _) _ _ _); k_dflt refine' stF (by rfl) (by rfl) (by rfl) (by with_reducible assumption) (by k_asm) (by k_asm) (by rfl) ?_; intro _ _ _ _ _; (try dsimp only)) | walk1 | (dsimp only; walk1))
     (with_reducible rename Fr _ _ _ _ => kF); (with_reducible rename News _ _ _ _ => kN)
     (with_reducible rename LF _ _ _ _ => C6)
     clear C5
     have hmD := (C6.rst _ (.tail _ r1)).1
     first | ((with_reducible refine execs_cons_gen ?_); intro _; (try dsimp only)) | walk1
     repeat' first | (k_unfold; (try dsimp only)) | ((fail_if_success (with_reducible first | refine WG ?_ | refine FG ?_)); (fail_if_success first | (with_reducible show wpAny _ _ (setItem (Value.ref _) (Value.int _ _) _) _ _ _) | (with_reducible show wpAny _ _ (getItem (Value.ref _) (Value.int _ _)) _ _ _) | ((have _ := (by with_reducible assumption : Stopper3)); (with_reducible show wpAny _ _ (execs _ _) _ _ _)) | (with_reducible show LCg.CompSrc _ _ _ _ _ _ _ _ _ _ _ _ _ _) | (with_reducible show LCt.CompSrcT _ _ _ _ _ _ _ _ _ _ _ _ _ _ _)); first | ((with_reducible show wpAny _ _ (eval (Expr.Name _ _) (envOfC _ _ _ _ _)) _ _ _); k_dflt refine' rdF (by rfl) (by rfl) (by rfl) (by with_reducible assumption) (by k_asm) (by rfl) (by first | exact rfl | exact CV.get (by with_reducible assumption) (by exact rfl)) ?_) | walk1 | (dsimp only; walk1))
     first | ((with_reducible refine execs_cons_gen ?_); intro _; (try dsimp only)) | walk1
     repeat' first | (k_unfold; (try dsimp only)) | ((fail_if_success (with_reducible first | refine WG ?_ | refine FG ?_)); (fail_if_success first | (with_reducible show wpAny _ _ (setItem (Value.ref _) (Value.int _ _) _) _ _ _) | (with_reducible show wpAny _ _ (getItem (Value.ref _) (Value.int _ _)) _ _ _) | ((have _ := (by with_reducible assumption : Stopper3)); (with_reducible show wpAny _ _ (execs _ _) _ _ _)) | (with_reducible show LCg.CompSrc _ _ _ _ _ _ _ _ _ _ _ _ _ _) | (with_reducible show LCt.CompSrcT _ _ _ _ _ _ _ _ _ _ _ _ _ _ _)); first | ((with_reducible show wpAny _ _ (eval (Expr.Name _ _) (envOfC _ _ _ _ _)) _ _ _); k_dflt refine' rdF (by rfl) (by rfl) (by rfl) (by with_reducible assumption) (by k_asm) (by rfl) (by first | exact rfl | exact CV.get (by with_reducible assumption) (by exact rfl)) ?_) | ((with_reducible show wpAny _ _ (newList _) _ _ _); k_dflt refine' newList_LF (by with_reducible assumption) (by k_asm) (by k_asm) (by first | decide | (simp only [List.length_cons, List.length_nil]; omega)) ?_; intro _ _ _ _ _ _ _; (try dsimp only)) | ((with_reducible show wpAny _ _ (eval (Expr.Name _ _) (envOfC _ _ _ _ _)) _ _ _); k_dflt first | refine' nmL (by rfl) (by first | rfl | assumption) (by k_asm) (by first | exact Has.get (by with_reducible assumption) (by exact rfl) | exact rfl) ?_ | refine' nmC (by rfl) (by first | rfl | assumption) (by k_asm) (by rfl) (by k_mem) (by with_reducible assumption) ?_) | walk1 | (dsimp only; walk1))
     (with_reducible rename Fr _ _ _ _ => kF); (with_reducible rename News _ _ _ _ => kN)
     (with_reducible rename LF _ _ _ _ => C7)
     refine execs_cut (fun m₂ nw => ∃ (c : Nat → Option Value) (tt tn tb tk : Tok) (Dm : Addr) (un : List Value) (em : Nat), LF nw s1.heap.objs.size c ((Dm, listOf un.toArray em) :: (I', it) :: rs) ∧ CV c 0 (.ref D) ∧ CV c 1 (.int tot tt) ∧ CV c 2 (.int (n : Nat) tn) ∧ CV c 3 (.int (i : Nat) tk) ∧ CV c 4 (.ref Dd) ∧ Has m₂ (Str.ofString "old") (.ref Do) ∧ Has m₂ (Str.ofString "new") (.ref Dn) ∧ Has m₂ (Str.ofString "bound") (.int (4 + tot) tb) ∧ Has m₂ (Str.ofString "named") (.ref Dm) ∧ IntsAre un (namedF cs n i)) kF kN ⟨_, _, _, _, _, _, _, _, C7, ⟨c0.out⟩, ⟨c1.out⟩, ⟨c2.out⟩, ⟨rfl⟩, ⟨c4.out⟩, ⟨k1.out⟩, ⟨k2.out⟩, ⟨k3.out⟩, ⟨rfl⟩, by rw [← named_eq]; exact .cons _ _ (.cons _ _ .nil)⟩ ?_
     clear kF kN C6 C7 c0 c1 c2 c4 k1 k2 k3 hmD
     intro m₂ nw2 h₂ tk₂ kF kN hp
     refine oEEEEEEEEAAAAAAAAAA (hp) fun c tt tn tb tk Dm un em C2 c0 c1 c2 c3 c4 k1 k2 k3 k4 hun => ?_
     try clear hp
     first | ((with_reducible refine execs_cons_gen ?_); intro _; (try dsimp only)) | walk1
     repeat' first | (k_unfold; (try dsimp only)) | ((fail_if_success (with_reducible first | refine WG ?_ | refine FG ?_)); (fail_if_success first | (with_reducible show wpAny _ _ (setItem (Value.ref _) (Value.int _ _) _) _ _ _) | (with_reducible show wpAny _ _ (getItem (Value.ref _) (Value.int _ _)) _ _ _) | ((have _ := (by with_reducible assumption : Stopper3)); (with_reducible show wpAny _ _ (execs _ _) _ _ _)) | (with_reducible show LCg.CompSrc _ _ _ _ _ _ _ _ _ _ _ _ _ _) | (with_reducible show LCt.CompSrcT _ _ _ _ _ _ _ _ _ _ _ _ _ _ _)); first | ((with_reducible show wpAny _ _ (eval (Expr.ListComp _ _ _ _) _) _ _ _); k_dflt (refine' LCt.ListComp_T (by k_asm) (by with_unfolding_all rfl) (by decide) (by rfl) (by decide) (by rfl) ?_ (by intro _; rfl))) | ((with_reducible show wpAny _ _ (eval (Expr.Name _ _) (envOfC _ _ _ _ _)) _ _ _); k_dflt first | refine' nmL (by rfl) (by first | rfl | assumption) (by k_asm) (by first | exact Has.get (by with_reducible assumption) (by exact rfl) | exact rfl) ?_ | refine' nmC (by rfl) (by first | rfl | assumption) (by k_asm) (by rfl) (by k_mem) (by with_reducible assumption) ?_) | walk1 | (dsimp only; walk1))
     (with_reducible rename Fr _ _ _ _ => kF); (with_reducible rename News _ _ _ _ => kN)
     have hmm := (C2.rst _ (.head _)).1
     have hunl : un.length = 2 := hun.length
     refine LCt.CompSrcT.ledger rfl kF kN hmm (by rw [sizeLine_eq, List.size_toArray]; omega) ?_
     intro g9
     clear kF kN
     refine oEA (C2.cell 1 (by decide)) fun q1 hq1 hd1 => ?_
     refine oEA (C2.cell 2 (by decide)) fun q2 hq2 hd2 => ?_
     refine oEA (C2.cell 3 (by decide)) fun q3 hq3 hd3 => ?_
     rw [c1.out] at hd1
     rw [c2.out] at hd2
     rw [c3.out] at hd3
     refine letX3_0_2eio (fun i' ys nw' => nw' = nw2 ∧ IntsAre ys (((namedF cs n i).take i').filter (needP tot n i)) : Nat → List Value → Ledger → Prop) (fun _ _ _ => .rfl) fun J6 hJ6 hJ6i hJ6o => ?_
     refine restT_inv J6 ?_ ?_ _ 0 [] _ (Nat.zero_add _) (by exact hJ6i _ _ _ (rfl) (.nil))
     ·intro i' ys nw hi' hj v I1 oI C1 oC D1 m₃ h3 tk3 E3 hPv hNs hmx F3 N3 off hne'
      refine hJ6o _ _ _ hj _ fun ej5 hys => ?_
      clear hj
      subst ej5
      have hvi : un[i']? = some v := by simpa using hPv
      refine oEEA (hun.at i' v hvi) fun j tj er3 hj => ?_
      subst er3
      have hC3 : (C1, oC) ∈ (I1, oI) :: (C1, oC) :: (D1, LCg.lst ys) :: nw := .tail _ (.head _)
      have hc3 : (s1.heap.objs.size + 1 + 1, q1) ∈ (I1, oI) :: (C1, oC) :: (D1, LCg.lst ys) :: nw := .tail _ (.tail _ (.tail _ hq1))
      have hc4 : (s1.heap.objs.size + 1 + 1 + 1, q2) ∈ (I1, oI) :: (C1, oC) :: (D1, LCg.lst ys) :: nw := .tail _ (.tail _ (.tail _ hq2))
      have hc5 : (s1.heap.objs.size + 1 + 1 + 1 + 1, q3) ∈ (I1, oI) :: (C1, oC) :: (D1, LCg.lst ys) :: nw := .tail _ (.tail _ (.tail _ hq3))
      generalize hn3 : (I1, oI) :: (C1, oC) :: (D1, LCg.lst ys) :: nw = nw3 at N3 hC3 hc3 hc4 hc5
      repeat' first | (k_unfold; (try dsimp only)) | ((fail_if_success (with_reducible first | refine WG ?_ | refine FG ?_)); (fail_if_success first | (with_reducible show wpAny _ _ (setItem (Value.ref _) (Value.int _ _) _) _ _ _) | (with_reducible show wpAny _ _ (getItem (Value.ref _) (Value.int _ _)) _ _ _) | ((have _ := (by with_reducible assumption : Stopper3)); (with_reducible show wpAny _ _ (execs _ _) _ _ _)) | (with_reducible show LCg.CompSrc _ _ _ _ _ _ _ _ _ _ _ _ _ _) | (with_reducible show LCt.CompSrcT _ _ _ _ _ _ _ _ _ _ _ _ _ _ _)); first | walk1 | (dsimp only; walk1))
      all_goals (refine LCg.CompEnd.intro F3 N3 nw (by rw [← hn3]; exact fun p hp => hp) off (.inr ⟨_, hmm, rfl, _, rfl⟩) ?_)
      all_goals (rw [hJ6])
      all_goals (have h8 : tot.fmod 8 = tot % 8 := Int.fmod_eq_emod_of_nonneg _ (by decide))
      ·refine ⟨rfl, ?_⟩
       rw [need_pos hj (by unfold needP; exact decide_eq_true (by omega))]
       exact hys.append (.cons _ _ .nil)
      ·refine ⟨rfl, ?_⟩
       rw [need_pos hj (by unfold needP; exact decide_eq_true (by omega))]
       exact hys.append (.cons _ _ .nil)
      ·refine ⟨rfl, ?_⟩
       rw [need_neg hj (by unfold needP; exact decide_eq_false (by omega))]
       exact hys
      ·refine ⟨rfl, ?_⟩
       rw [need_neg hj (by unfold needP; exact decide_eq_false (by omega))]
       exact hys
     ·intro ys nw hj
      refine hJ6o _ _ _ hj _ fun ej6 hys => ?_
      clear hj
      subst ej6
      have e2 : un.toArray.size = (namedF cs n i).length := by rw [List.size_toArray]; exact hunl
      rw [e2, List.take_length] at hys
      intro Lk h4 tk4 F4 N4 o1
      replace N4 : News s1.heap s1.heap.objs.size h4 ((Lk, listOf ys.toArray ys.length) :: nw) := N4
      have hLkn := off1_ne o1
      have C8 := C2.cons (o := listOf ys.toArray ys.length) hLkn
      generalize hnw8 : (Lk, listOf ys.toArray ys.length) :: nw = nw8 at N4 C8
      dsimp only
      repeat' first | (k_unfold; (try dsimp only)) | ((fail_if_success (with_reducible first | refine WG ?_ | refine FG ?_)); (fail_if_success first | (with_reducible show wpAny _ _ (setItem (Value.ref _) (Value.int _ _) _) _ _ _) | (with_reducible show wpAny _ _ (getItem (Value.ref _) (Value.int _ _)) _ _ _) | ((have _ := (by with_reducible assumption : Stopper3)); (with_reducible show wpAny _ _ (execs _ _) _ _ _)) | (with_reducible show LCg.CompSrc _ _ _ _ _ _ _ _ _ _ _ _ _ _) | (with_reducible show LCt.CompSrcT _ _ _ _ _ _ _ _ _ _ _ _ _ _ _)); first | ((with_reducible show wpAny _ _ (eval (Expr.Name _ _) (envOfC _ _ _ _ _)) _ _ _); k_dflt refine' rdF (by rfl) (by rfl) (by rfl) (by with_reducible assumption) (by k_asm) (by rfl) (by first | exact rfl | exact CV.get (by with_reducible assumption) (by exact rfl)) ?_) | walk1 | (dsimp only; walk1))
      have hDd8 := (C8.rst _ (.tail _ (.tail _ (.tail _ r4)))).1
      have neD : ∀ {a : Addr} {its : Array Value} {e : Nat}, (a, listOf its e) ∈ nw8 → a ≠ Dd := fun h => C8.uniq.ne h hDd8 (list_ne_dictOf hdd)
      refine kda_set (knd := intKind _ _) F4 N4 (updF_uniq C8.uniq hDd8) hdd (intKind_is _ _ _ _) (by rw [List.length_map, sizeLine_eq]; unfold rng; rw [List.length_map, List.length_range]; omega) ?_
      intro h5 od' F5 N5 hdd'
      rw [stored_rng] at hdd'
      have C9 := C8.set (o' := od') (.tail _ (.tail _ (.tail _ r4)))
      clear st3
      dsimp only
      repeat' first | (k_unfold; (try dsimp only)) | ((fail_if_success (with_reducible first | refine WG ?_ | refine FG ?_)); (fail_if_success first | (with_reducible show wpAny _ _ (setItem (Value.ref _) (Value.int _ _) _) _ _ _) | (with_reducible show wpAny _ _ (getItem (Value.ref _) (Value.int _ _)) _ _ _) | ((have _ := (by with_reducible assumption : Stopper3)); (with_reducible show wpAny _ _ (execs _ _) _ _ _)) | (with_reducible show LCg.CompSrc _ _ _ _ _ _ _ _ _ _ _ _ _ _) | (with_reducible show LCt.CompSrcT _ _ _ _ _ _ _ _ _ _ _ _ _ _ _)); first | ((with_reducible refine execs_nil_gen ?_); intro _; (try dsimp only)) | walk1 | (dsimp only; walk1))
      (with_reducible rename Fr _ _ _ _ => kF); (with_reducible rename News _ _ _ _ => kN)
      have hLD : Lk ≠ Dd := neD (by rw [← hnw8]; exact .head _)
      have hID : I' ≠ Dd := fun e => hrI _ r4 e.symm
      have hIn : (I', it) ∈ nw := (C2.rst _ (.tail _ (.head _))).1
      have hLI : Lk ≠ I' := fun e => hLkn _ hIn e.symm
      have C10 := C9.sub (rest' := (I', it) :: (Lk, listOf ys.toArray ys.length) :: setL rs Dd od') (by
       intro p hp
       rcases List.mem_cons.mp hp with rfl | hp
       ·exact mem_set_ne (.tail _ (.tail _ (.head _))) hID
       ·rcases List.mem_cons.mp hp with rfl | hp
        ·exact mem_set_ne (.head _) hLD
        ·refine oEA (List.mem_map.mp hp) fun q hq er4 => ?_
         subst er4
         exact List.mem_map.mpr ⟨q, .tail _ (.tail _ (.tail _ hq)), rfl⟩)
      refine FPost.next kF (news_drop kN (C10.rst _ (.head _)).1) dropA_ne ?_
      rw [hJ5]
      have up : ∀ {a : Addr} {its : Array Value} {e : Nat}, (a, listOf its e) ∈ rs → (a, listOf its e) ∈ (Lk, listOf ys.toArray ys.length) :: setL rs Dd od' := fun h => .tail _ (mem_set_ne h (neD (C8.rst _ (.tail _ (.tail _ (.tail _ h)))).1))
      refine ⟨c, tt, tn, tb, (Lk, listOf ys.toArray ys.length) :: setL rs Dd od', od', fun k => if k = (i : Int) then Lk else la k, C10.drop ?_, c0, c1, c2, c4, k1, k2, k3, up r1, up r2, up r3, .tail _ (mem_set_self r4), hdd', ?_⟩
      ·intro p hp
       rcases List.mem_cons.mp hp with rfl | hp
       ·exact hLI
       ·refine oEA (List.mem_map.mp hp) fun q hq er5 => ?_
        subst er5
        by_cases e : q.1 = Dd
        ·rw [if_pos e]; exact Ne.symm hID
        ·rw [if_neg e]; exact hrI q hq
      ·intro k hk
       dsimp only
       by_cases e : k = (i : Int)
       ·rw [if_pos e]
        refine ⟨ys, ys.length, .head _, ?_⟩
        unfold needF
        rw [e, Int.toNat_natCast]
        exact hys
       ·rw [if_neg e]
        have hk' : k ∈ rng i := by rw [mem_rng] at hk ⊢; omega
        refine oEEA (hla k hk') fun us es hu hui => ?_
        exact ⟨us, es, up hu, hui⟩
    ·intro m₁ nw h₁ tk₁ hj F₁ N₁
     refine hJ5o _ _ _ hj _ fun c tt tn tb rs od la C c0 c1 c2 c4 k1 k2 k3 r1 r2 r3 r4 hdd hla => ?_
     clear hj
     replace F₁ : Fr s1.heap s1.heap.objs.size h₁ m₁ := F₁
     replace N₁ : News s1.heap s1.heap.objs.size h₁ nw := N₁
     clear C2 kF kN
     dsimp only
     first | ((with_reducible refine execs_nil_gen ?_); intro _; (try dsimp only)) | walk1
     have h9 := fun qk s hq F N => @law_tail w _ _ _ s1.heap s1.heap.objs.size fa w7 s m₁ nw qk cs tot n D Do Dn Dd vs yo yn ep eo en c tt tn tb rs od la X0 T0 B0 hn3 hn6 ht0 lo' (by rw [List.map_map]; exact hyo) (by rw [List.map_map]; exact hyn) F N ⟨C, c0, c1, c2, c4, k1, k2, k3, r1, r2, r3, r4, hdd, hla⟩ hq
     conv at h9 in (lawB 9) => unfold lawB; whnf
     unfold lawE at h9
     simp only [show lawS = _ from by conv => lhs; whnf] at h9
     refine h9 _ _ ?_ F₁ N₁
     intro h' tk' hkeep
     exact ⟨.inl ⟨_, _, [], rfl, fun _ => rfl, .bool true, post_ok _, unshared_nil⟩, hkeep, rfl, hg⟩
end
end Mine
theorem PySem.Challenge.cw_ny0310_01_holds : PySem.Challenge.rw_ny0310_01.Holds := by
 exact Mine.law_holds
